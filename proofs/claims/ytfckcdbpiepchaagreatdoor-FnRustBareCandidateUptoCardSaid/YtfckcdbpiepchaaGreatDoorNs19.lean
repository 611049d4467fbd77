import Derived.Test.YtfckcdbpiepchaaGreatDoorNs17
import Derived.Test.YtfckcdbpiepchaaGreatDoorNs18
import Derived.Laws.AppendOwn
namespace Go.Proofs.YtfckcdbpiepchaaGreatDoor
open Go.RowKit
set_option maxRecDepth 100000
set_option maxHeartbeats 8000000
set_option linter.all false
structure Fr (B:Nat)(w w':World):Prop where
 os:w'.os=w.os
 tape:w'.tape=w.tape
 output:w'.output=w.output
 size:w.heap.size<=w'.heap.size
 block:∀ k,k < w.heap.size->(k < B\/∃ c fz,w.heap[k]? = some (.cells c 28 fz))->w'.heap[k]? = w.heap[k]?
theorem Fr.refl (B:Nat)(w:World):Fr B w w:=⟨rfl,rfl,rfl,Nat.le_refl _,fun _ _ _=>rfl⟩
theorem Fr.trans {B:Nat}{a b c:World}(h:Fr B a b)(k:Fr B b c):Fr B a c:=
 ⟨k.os.trans h.os,k.tape.trans h.tape,k.output.trans h.output,Nat.le_trans h.size k.size,fun i d f=>by
  have e:=h.block i d f;rw[k.block i (Nat.lt_of_lt_of_le d h.size) (f.imp id fun⟨c,fz,g⟩=>⟨c,fz,by rw[e];exact g⟩),e]⟩
theorem Fr.of_below {B:Nat}{w w':World}(h:Below w.heap.size w w'):Fr B w w':=⟨h.os,h.tape,h.output,h.size,fun k a _=>h.block k a⟩
theorem Fr.alloc (B:Nat)(w:World)(o:Obj):Fr B w (w.alloc o):=.of_below ((Below.refl _ w).alloc (Nat.le_refl _) o)
theorem Fr.below {B:Nat}{w w':World}(h:Fr B w w')(hB:B<=w.heap.size):Below B w w':=⟨h.os,h.tape,h.output,h.size,fun k a=>h.block k (by omega) (.inl a)⟩
theorem Fr.grown {B:Nat}{w w':World}{a:Option Nat}(h:w.grownBy w' a)(hr:∀ k,a=some k->B<=k/\∀ c fz,w.heap[k]?≠some (.cells c 28 fz)):Fr B w w':=
 ⟨h.os,h.tape,h.output,h.size,fun k f b=>h.block k f (fun e=>by
  obtain⟨g,d⟩:=hr k e.symm
  rcases b with b|⟨c,fz,b⟩
  ·omega
  ·exact d c fz b)⟩
theorem Fr.set {B:Nat}{w:World}{p:Nat}{d:Array Value}{b:TypeId}{fz:Nat×Nat}(f:w.heap[p]? = some (.cells d b fz))(hB:B<=p)(g:b≠28)(i:Nat)(v:Value):Fr B w (w.setCell ⟨p,i,none⟩ v):=
 ⟨rfl,rfl,rfl,by simp[World.setCell],fun k _ a=>by
  refine Below.heap_setCell _ _ _ _ fun e=>?_;subst e
  rcases a with a|⟨c,f2,a⟩
  ·exact absurd hB (Nat.not_le.2 a)
  ·rw[f] at a
   simp only[Option.some.injEq,Obj.cells.injEq] at a;exact g a.2.1⟩
theorem Fr.cell {B:Nat}{w w':World}(h:Fr B w w'){T:Nat}{c:Array Value}{fz:Nat×Nat}(a:w.heap[T]? = some (.cells c 28 fz)):w'.heap[T]? = some (.cells c 28 fz):=by
 rw[h.block T (Array.getElem?_eq_some_iff.1 a).1 (.inr ⟨c,fz,a⟩)];exact a
theorem zm {w:World}{T:Nat}{c:Array Value}{d:TypeId}{fz:Nat×Nat}(a:w.heap[T]? = some (.cells c d fz)){j:Nat}{v:Value}(b:c[j]? = some v):w.cell? ⟨T,j,none⟩=some v:=by
 simp[World.cell?,a,b]
theorem ygn {w:World}{B s n:Nat}{e:TypeId}{v:Value}{xs:List Value}(h:w.ownsRow B e s v n xs){k:Nat}(d:v.ownBlock=some k):B<=k/\k < w.heap.size/\∃ c,w.heap[k]? = some (.cells c e (0,0)):=by
 rcases h.2 with⟨rfl,_⟩|⟨g,cap,a,rfl,hB,b,_⟩
 ·cases d
 ·cases d;exact⟨hB,(Array.getElem?_eq_some_iff.1 b).1,a,b⟩
theorem yeo {w:World}{B s n:Nat}{e:TypeId}{v:Value}{xs:List Value}(h:w.ownsRow B e s v n xs){p:Nat}{c:Array Value}{b:TypeId}{fz:Nat×Nat}(f:w.heap[p]? = some (.cells c b fz))(g:b≠e):some p≠v.ownBlock:=by
 intro d;obtain⟨_,_,c2,a⟩:=ygn h d.symm;rw[f] at a;simp only[Option.some.injEq,Obj.cells.injEq] at a;exact g a.2.1
theorem q7 {w w':World}{B s n f m n2:Nat}{e d:TypeId}{v v2:Value}{xs b:List Value}(h:w.ownsRow B e s v n xs)(g:w.ownsRow f d m v2 n2 b)(a:e≠d)(j:w.grownBy w' v2.ownBlock):w'.ownsRow B e s v n xs:=by
 refine h.kept j ?_
 cases l:v.ownBlock with
 | none=>exact .inl rfl
 | some k=>
  obtain⟨_,_,c,i⟩:=ygn h l;exact .inr (yeo g i a)
theorem zw {w:World}{B s n:Nat}{e:TypeId}{v:Value}{xs:List Value}(h:w.ownsRow B e s v n xs){p:Nat}{c:Array Value}{d:TypeId}{fz:Nat×Nat}(l:w.heap[p]? = some (.cells c d fz))(m:d≠e)(i:Nat)(u:Value):(w.setCell ⟨p,i,none⟩ u).ownsRow B e s v n xs:=by
 have b:=yeo h l m;obtain⟨f,j⟩:=h;refine⟨f,j.imp id ?_⟩;rintro ⟨g,cap,a,rfl,hB,k,r⟩;refine⟨g,cap,a,rfl,hB,?_,r⟩;rw[Below.heap_setCell _ _ _ _ (fun h=>b (by simp[Value.ownBlock];simpa using h.symm))];exact k
theorem yci {w w':World}{B s n:Nat}{e:TypeId}{v:Value}{xs:List Value}(h:w.ownsRow B e s v n xs)(hb:Below w.heap.size w w'):w'.ownsRow B e s v n xs:=by
 obtain⟨c,d⟩:=h;refine⟨c,d.imp id ?_⟩;rintro ⟨g,cap,a,rfl,hB,b,r⟩;exact⟨g,cap,a,rfl,hB,by rw[hb.block g (Array.getElem?_eq_some_iff.1 b).1];exact b,r⟩
def yb2 (l:List Nat):List Value:=l.map fun(n:Nat)=>.int .i64 (n:Int)
def ygk (l:List Bd):List Value:=(l.map fun b=>([.int .i64 b.at_,.int .i64 b.all]:List Value)).flatten
def yfk (l:List Bk):List Value:=(l.map fun b=>([.int .i64 b.at_,.int .i64 b.to_,.int .i64 b.bound]:List Value)).flatten
def gp (so sx sm h:Value)(st:WS)(pl:Bool)(sb sk:Value):List Value:=
 [so,sx,sm,h,.int .i64 st.used,.bool pl,.bool st.empty,.int .i64 st.bound,sb,sk]
structure qu (w:World)(B p:Nat)(h:Value)(pl:Bool)(st:WS)(so sx sm sb sk:Value):Prop where
 blk:w.heap[p]? = some (.cells (gp so sx sm h st pl sb sk).toArray 70 (0,0))
 pB:B<=p
 o:w.ownsRow B 5 1 so st.out.length (je st.out)
 x:w.ownsRow B 9 1 sx st.texts.length (ke st.texts)
 m:w.ownsRow B 3 1 sm st.marks.length (yb2 st.marks)
 b:w.ownsRow B 75 2 sb st.bounds.length (ygk st.bounds)
 k:w.ownsRow B 73 3 sk st.backs.length (yfk st.backs)
def WAt (w:World)(B p:Nat)(h:Value)(pl:Bool)(st:WS):Prop:=∃ so sx sm sb sk,qu w B p h pl st so sx sm sb sk
section
variable {w:World} {B p:Nat} {h:Value} {pl:Bool} {st:WS}
theorem qu.lt {so sx sm sb sk:Value}(a:qu w B p h pl st so sx sm sb sk):p < w.heap.size:=(Array.getElem?_eq_some_iff.1 a.blk).1
theorem WAt.lt (b:WAt w B p h pl st):p < w.heap.size:=by obtain⟨_,_,_,_,_,a⟩:=b;exact a.lt
theorem WAt.pB (b:WAt w B p h pl st):B<=p:=by obtain⟨_,_,_,_,_,a⟩:=b;exact a.pB
theorem qu.below {w':World}{so sx sm sb sk:Value}(a:qu w B p h pl st so sx sm sb sk)(hb:Below w.heap.size w w'):qu w' B p h pl st so sx sm sb sk:=
 ⟨by rw[hb.block p a.lt];exact a.blk,a.pB,yci a.o hb,yci a.x hb,yci a.m hb,yci a.b hb,yci a.k hb⟩
theorem WAt.below {w':World}(b:WAt w B p h pl st)(hb:Below w.heap.size w w'):WAt w' B p h pl st:=by
 obtain⟨so,sx,sm,sb,sk,a⟩:=b;exact⟨so,sx,sm,sb,sk,a.below hb⟩
theorem WAt.alloc (a:WAt w B p h pl st)(o:Obj):WAt (w.alloc o) B p h pl st:=a.below ((Below.refl _ w).alloc (Nat.le_refl _) o)
theorem qu.cell {so sx sm sb sk:Value}(a:qu w B p h pl st so sx sm sb sk)(j:Nat)(v:Value)(b:(gp so sx sm h st pl sb sk)[j]? = some v):w.cell? ⟨p,j,none⟩=some v:=zm a.blk (by simpa using b)
theorem qu.free {so sx sm sb sk:Value}(a:qu w B p h pl st so sx sm sb sk)(j:Nat):w.frozen? ⟨p,j,none⟩=false:=zz a.blk j
theorem WAt.free (b:WAt w B p h pl st)(j:Nat):w.frozen? ⟨p,j,none⟩=false:=by obtain⟨_,_,_,_,_,a⟩:=b;exact a.free j
theorem WAt.used (b:WAt w B p h pl st):w.cell? ⟨p,4,none⟩=some (.int .i64 st.used):=by obtain⟨_,_,_,_,_,a⟩:=b;exact a.cell 4 _ rfl
theorem WAt.plain (b:WAt w B p h pl st):w.cell? ⟨p,5,none⟩=some (.bool pl):=by obtain⟨_,_,_,_,_,a⟩:=b;exact a.cell 5 _ rfl
theorem WAt.empty (b:WAt w B p h pl st):w.cell? ⟨p,6,none⟩=some (.bool st.empty):=by obtain⟨_,_,_,_,_,a⟩:=b;exact a.cell 6 _ rfl
theorem WAt.bound (b:WAt w B p h pl st):w.cell? ⟨p,7,none⟩=some (.int .i64 st.bound):=by obtain⟨_,_,_,_,_,a⟩:=b;exact a.cell 7 _ rfl
theorem WAt.how (b:WAt w B p h pl st):w.cell? ⟨p,3,none⟩=some h:=by obtain⟨_,_,_,_,_,a⟩:=b;exact a.cell 3 _ rfl
theorem qu.set {so sx sm sb sk:Value}(c:qu w B p h pl st so sx sm sb sk)(i:Nat)(v:Value){a:WS}(l:(gp so sx sm h st pl sb sk).set i v=gp so sx sm h a pl sb sk)
  (d:a.out=st.out) (e:a.texts=st.texts) (f:a.marks=st.marks) (g:a.bounds=st.bounds) (j:a.backs=st.backs):WAt (w.setCell ⟨p,i,none⟩ v) B p h pl a/\Fr B w (w.setCell ⟨p,i,none⟩ v):=by
 refine⟨⟨so,sx,sm,sb,sk,?_,c.pB,?_,?_,?_,?_,?_⟩,Fr.set c.blk c.pB (by decide) i v⟩
 ·rw[zb c.blk,l]
 ·rw[d];exact zw c.o c.blk (by decide) _ _
 ·rw[e];exact zw c.x c.blk (by decide) _ _
 ·rw[f];exact zw c.m c.blk (by decide) _ _
 ·rw[g];exact zw c.b c.blk (by decide) _ _
 ·rw[j];exact zw c.k c.blk (by decide) _ _
theorem WAt.set_empty (b:WAt w B p h pl st)(e:Bool):WAt (w.setCell ⟨p,6,none⟩ (.bool e)) B p h pl { st with empty:=e }/\Fr B w (w.setCell ⟨p,6,none⟩ (.bool e)):=by
 obtain⟨so,sx,sm,sb,sk,a⟩:=b;exact a.set 6 _ rfl rfl rfl rfl rfl rfl
theorem WAt.set_bound (b:WAt w B p h pl st)(n:Nat):WAt (w.setCell ⟨p,7,none⟩ (.int .i64 n)) B p h pl { st with bound:=n }/\Fr B w (w.setCell ⟨p,7,none⟩ (.int .i64 n)):=by
 obtain⟨so,sx,sm,sb,sk,a⟩:=b;exact a.set 7 _ rfl rfl rfl rfl rfl rfl
variable {so sx sm sb sk:Value}
theorem yg4 {w:World}{B s n:Nat}{e:TypeId}{v:Value}{xs:List Value}(h:w.ownsRow B e s v n xs)(f:e≠28){w':World}(g:w.grownBy w' v.ownBlock):Fr B w w':=
 .grown g fun k i=>by
  obtain⟨b,_,c,d⟩:=ygn h i;refine⟨b,fun c2 fz a=>?_⟩;rw[d] at a;simp only[Option.some.injEq,Obj.cells.injEq] at a;exact f a.2.1
theorem qu.at (a:qu w B p h pl st so sx sm sb sk):WAt w B p h pl st:=⟨so,sx,sm,sb,sk,a⟩
theorem qu.cells {a:WS}(d:qu w B p h pl st so sx sm sb sk)(c:a.used=st.used)(b:a.empty=st.empty)(hb:a.bound=st.bound):gp so sx sm h st pl sb sk=gp so sx sm h a pl sb sk:=by
 unfold gp;rw[c,b,hb]
theorem qu.app_o (a:qu w B p h pl st so sx sm sb sk){e:World}{c:Value}{l:List UInt8}{n:Nat}(f:n=l.length)(d:w.grownBy e so.ownBlock)(g:e.ownsRow B 5 1 c n (je l)) :
  e.heap[p]? = some (.cells (gp so sx sm h st pl sb sk).toArray 70 (0,0))/\WAt (e.setCell ⟨p,0,none⟩ c) B p h pl { st with out:=l }/\Fr B w (e.setCell ⟨p,0,none⟩ c):=by
 subst f;have hb:e.heap[p]? = some (.cells (gp so sx sm h st pl sb sk).toArray 70 (0,0)):=by rw[d.block p a.lt (yeo a.o a.blk (by decide))];exact a.blk
 refine⟨hb,⟨c,sx,sm,sb,sk,by rw[zb hb];rfl,a.pB,?_,?_,?_,?_,?_⟩,(yg4 a.o (by decide) d).trans (Fr.set hb a.pB (by decide) _ _)⟩
 ·exact zw g hb (by decide) _ _
 ·exact zw (q7 a.x a.o (by decide) d) hb (by decide) _ _
 ·exact zw (q7 a.m a.o (by decide) d) hb (by decide) _ _
 ·exact zw (q7 a.b a.o (by decide) d) hb (by decide) _ _
 ·exact zw (q7 a.k a.o (by decide) d) hb (by decide) _ _
theorem qu.app_x (a:qu w B p h pl st so sx sm sb sk){e:World}{c:Value}{l:List (List UInt8)}{n:Nat}(f:n=l.length)(d:w.grownBy e sx.ownBlock)(g:e.ownsRow B 9 1 c n (ke l)) :
  e.heap[p]? = some (.cells (gp so sx sm h st pl sb sk).toArray 70 (0,0))/\WAt (e.setCell ⟨p,1,none⟩ c) B p h pl { st with texts:=l }/\Fr B w (e.setCell ⟨p,1,none⟩ c):=by
 subst f;have hb:e.heap[p]? = some (.cells (gp so sx sm h st pl sb sk).toArray 70 (0,0)):=by rw[d.block p a.lt (yeo a.x a.blk (by decide))];exact a.blk
 refine⟨hb,⟨so,c,sm,sb,sk,by rw[zb hb];rfl,a.pB,?_,?_,?_,?_,?_⟩,(yg4 a.x (by decide) d).trans (Fr.set hb a.pB (by decide) _ _)⟩
 ·exact zw (q7 a.o a.x (by decide) d) hb (by decide) _ _
 ·exact zw g hb (by decide) _ _
 ·exact zw (q7 a.m a.x (by decide) d) hb (by decide) _ _
 ·exact zw (q7 a.b a.x (by decide) d) hb (by decide) _ _
 ·exact zw (q7 a.k a.x (by decide) d) hb (by decide) _ _
theorem qu.app_m (a:qu w B p h pl st so sx sm sb sk){e:World}{c:Value}{l:List Nat}{n:Nat}(f:n=l.length)(d:w.grownBy e sm.ownBlock)(g:e.ownsRow B 3 1 c n (yb2 l)) :
  e.heap[p]? = some (.cells (gp so sx sm h st pl sb sk).toArray 70 (0,0))/\WAt (e.setCell ⟨p,2,none⟩ c) B p h pl { st with marks:=l }/\Fr B w (e.setCell ⟨p,2,none⟩ c):=by
 subst f;have hb:e.heap[p]? = some (.cells (gp so sx sm h st pl sb sk).toArray 70 (0,0)):=by rw[d.block p a.lt (yeo a.m a.blk (by decide))];exact a.blk
 refine⟨hb,⟨so,sx,c,sb,sk,by rw[zb hb];rfl,a.pB,?_,?_,?_,?_,?_⟩,(yg4 a.m (by decide) d).trans (Fr.set hb a.pB (by decide) _ _)⟩
 ·exact zw (q7 a.o a.m (by decide) d) hb (by decide) _ _
 ·exact zw (q7 a.x a.m (by decide) d) hb (by decide) _ _
 ·exact zw g hb (by decide) _ _
 ·exact zw (q7 a.b a.m (by decide) d) hb (by decide) _ _
 ·exact zw (q7 a.k a.m (by decide) d) hb (by decide) _ _
theorem qu.app_b (a:qu w B p h pl st so sx sm sb sk){e:World}{c:Value}{l:List Bd}{n:Nat}(f:n=l.length)(d:w.grownBy e sb.ownBlock)(g:e.ownsRow B 75 2 c n (ygk l)) :
  e.heap[p]? = some (.cells (gp so sx sm h st pl sb sk).toArray 70 (0,0))/\WAt (e.setCell ⟨p,8,none⟩ c) B p h pl { st with bounds:=l }/\Fr B w (e.setCell ⟨p,8,none⟩ c):=by
 subst f;have hb:e.heap[p]? = some (.cells (gp so sx sm h st pl sb sk).toArray 70 (0,0)):=by rw[d.block p a.lt (yeo a.b a.blk (by decide))];exact a.blk
 refine⟨hb,⟨so,sx,sm,c,sk,by rw[zb hb];rfl,a.pB,?_,?_,?_,?_,?_⟩,(yg4 a.b (by decide) d).trans (Fr.set hb a.pB (by decide) _ _)⟩
 ·exact zw (q7 a.o a.b (by decide) d) hb (by decide) _ _
 ·exact zw (q7 a.x a.b (by decide) d) hb (by decide) _ _
 ·exact zw (q7 a.m a.b (by decide) d) hb (by decide) _ _
 ·exact zw g hb (by decide) _ _
 ·exact zw (q7 a.k a.b (by decide) d) hb (by decide) _ _
theorem qu.app_k (a:qu w B p h pl st so sx sm sb sk){e:World}{c:Value}{l:List Bk}{n:Nat}(f:n=l.length)(d:w.grownBy e sk.ownBlock)(g:e.ownsRow B 73 3 c n (yfk l)) :
  e.heap[p]? = some (.cells (gp so sx sm h st pl sb sk).toArray 70 (0,0))/\WAt (e.setCell ⟨p,9,none⟩ c) B p h pl { st with backs:=l }/\Fr B w (e.setCell ⟨p,9,none⟩ c):=by
 subst f;have hb:e.heap[p]? = some (.cells (gp so sx sm h st pl sb sk).toArray 70 (0,0)):=by rw[d.block p a.lt (yeo a.k a.blk (by decide))];exact a.blk
 refine⟨hb,⟨so,sx,sm,sb,c,by rw[zb hb];rfl,a.pB,?_,?_,?_,?_,?_⟩,(yg4 a.k (by decide) d).trans (Fr.set hb a.pB (by decide) _ _)⟩
 ·exact zw (q7 a.o a.k (by decide) d) hb (by decide) _ _
 ·exact zw (q7 a.x a.k (by decide) d) hb (by decide) _ _
 ·exact zw (q7 a.m a.k (by decide) d) hb (by decide) _ _
 ·exact zw (q7 a.b a.k (by decide) d) hb (by decide) _ _
 ·exact zw g hb (by decide) _ _
end
theorem Rtn.same {w:World}{v:Value} : Rtn w v (.returned v) w:=.of ⟨w.drawn,#[]⟩ (ycj _).symm
theorem ywr:∀ k,k < 62->List.drop k (48::List.take k ([49,50,51,52,53,54,55,56,57,97,98,99,100,101,102,103,104,105,106,107,108,109,110,111,112,113,114,115,116,117,118,119,120,121,122,65,66,67,68,69,70,71,72,73,74,75,76,77,78,79,80,81,82,83,84,85,86,87,88,89,90]:List UInt8))=[ydb k]:=by decide
theorem yth:∀ k,k < 16->List.drop k (48::List.take k ([49,50,51,52,53,54,55,56,57,97,98,99,100,101,102]:List UInt8))=[yhc k]:=by decide
theorem yh3 {n:Nat}(h:62<=n):ya5 n=ya5 (n / 62)++[ydb (n % 62)]:=by
 rw[ya5,if_neg (by omega)]
theorem ydy {n:Nat}(h:n < 62):ya5 n=[ydb n]:=by
 rw[ya5,if_pos h]
theorem yjm (k:Nat):∀ n,n < 62 ^ (k+1)->(ya5 n).length<=k+1:=by
 induction k with
 | zero=>intro n h;rw[ydy (by simpa using h)];simp
 | succ k b=>
  intro n h
  by_cases a:n < 62
  ·rw[ydy a];simp
  ·rw[yh3 (by omega),List.length_append]
   have:=b (n / 62) (by rw[Nat.div_lt_iff_lt_mul (by omega)];rw[Nat.pow_succ] at h;omega);simp;omega
theorem gh {n:Nat}(h:n < 18446744073709551616):(jd n).length<=13:=by
 unfold jd
 split
 ·simp
 ·have:=yjm 11 (n-1) (by omega)
  rw[List.length_append];simp;omega
theorem x9 (n:Nat)(o:n < 18446744073709551616)(w:World):Calls Tryz.prog 90 #[.int .u64 n] w fun e w'=>e=.returned (.string ⟨(jd n).toArray⟩)/\w'=w:=by
 by_cases d:n=0
 ·subst d
  go_enter Tryz.func90,Tryz.ntmps90
  go_wp2;go_ret
  exact⟨rfl,rfl⟩
 ·have k:((n:Int) == 0)=false:=by simp;omega
  have hr:jd n=ya5 (n-1)++[95]:=by unfold jd;rw[if_neg d]
  have f:=yjm 11 (n-1) (by omega);have h:=lh hr
  go_enter Tryz.func90,Tryz.ntmps90
  go_wp2
  go_loop [0,3] (fun v0 v3=>∃ (m:Nat) (t:List UInt8),v0=.int .u64 m/\v3=.string ⟨t.toArray⟩/\ya5 (n-1)=ya5 m++t/\m<=n) (fun v0 _=>(intOf v0).toNat)
  case atStart=>exact⟨n-1,[],by go_num,rfl,by simp,by omega⟩
  case round=>
   obtain⟨m,t,rfl,rfl,a,l⟩:=hrel;have j:t.length<=12:=by have:=congrArg List.length a;rw[List.length_append] at this;omega
   by_cases c:62<=m
   ·have g:=yh3 c
    have i:=lh g;have b:=lh a;clear g a hr;go_wp2
    go_round
    case rel=>
     refine⟨m / 62,ydb (m % 62)::t,by go_num,?_,by rw[b.out,i.out];simp,by omega⟩;rw[ywr _ (by omega)];rfl
    case measure=>simp[intOf];omega
   ·have b:=lh a
    clear a hr;go_wp2;go_ret;refine⟨?_,rfl⟩;rw[h.out,b.out,ydy (by omega)]
    show Ending.returned (Value.string ⟨(List.drop m _++(t++[95])).toArray⟩)=_
    rw[ywr m (by omega)];simp
theorem yhb {n:Nat}(h:16<=n):qi n=qi (n / 16)++[yhc (n % 16)]:=by
 rw[qi,if_neg (by omega)]
theorem yb6 {n:Nat}(h:n < 16):qi n=[yhc n]:=by
 rw[qi,if_pos h]
theorem yc0 (k:Nat):∀ n,n < 16 ^ (k+1)->(qi n).length<=k+1:=by
 induction k with
 | zero=>intro n h;rw[yb6 (by simpa using h)];simp
 | succ k b=>
  intro n h
  by_cases a:n < 16
  ·rw[yb6 a];simp
  ·rw[yhb (by omega),List.length_append]
   have:=b (n / 16) (by rw[Nat.div_lt_iff_lt_mul (by omega)];rw[Nat.pow_succ] at h;omega);simp;omega
theorem ylo (k:Nat):∀ n:Nat,n < 16 ^ (k+1)->k<=15->∀ w:World,Calls Tryz.prog 88 #[.int .u64 n] w fun e w'=>Rtn w (.string ⟨(qi n).toArray⟩) e w':=by
 induction k with
 | zero=>
  intro n h _ w;have a:n < 16:=by simpa using h
  have hi:(n:Int) < 16:=by omega
  go_enter Tryz.func88,Tryz.ntmps88
  go_wp2;go_ret
  refine⟨?_,⟨w.drawn,#[]⟩,(ycj _).symm⟩;rw[yb6 a]
  show Ending.returned (Value.string ⟨(List.drop n _).toArray⟩)=_
  rw[yth n a]
 | succ k c=>
  intro n h j w
  by_cases a:n < 16
  ·have hi:(n:Int) < 16:=by omega
   go_enter Tryz.func88,Tryz.ntmps88
   go_wp2;go_ret
   refine⟨?_,⟨w.drawn,#[]⟩,(ycj _).symm⟩;rw[yb6 a]
   show Ending.returned (Value.string ⟨(List.drop n _).toArray⟩)=_
   rw[yth n a]
  ·have hi:¬ (n:Int) < 16:=by omega
   have i:n < 18446744073709551616:=Nat.lt_of_lt_of_le h (show 16 ^ (k+1+1)<=16 ^ 16 from Nat.pow_le_pow_right (by omega) (by omega));have hd:n / 16 < 16 ^ (k+1):=by rw[Nat.div_lt_iff_lt_mul (by omega)];rw[Nat.pow_succ] at h;omega
   have g:=yc0 k (n / 16) hd;have b:∀ w,Calls Tryz.prog 88 #[.int .u64 ((n:Int) / 16)] w fun e w'=>Rtn w (.string ⟨(qi (n / 16)).toArray⟩) e w':=fun w=>by
    rw[show((n:Int) / 16)=((n / 16:Nat):Int) by omega];exact c (n / 16) hd (by omega) w
   have f:=lh (yhb (n:=n) (by omega));have d:=lh b;clear c h hd b
   go_enter Tryz.func88,Tryz.ntmps88
   go_wp2;refine yao (by kernel_rfl) (by kernel_rfl) ?_
   repeat(go_big_quiet_step (first|exact ybn (d.out _)))
   refine wpQuiet_nil ?_;rintro _ ⟨y,rfl⟩;go_wp2;go_ret;refine⟨?_,_,rfl⟩;rw[f.out]
   show Ending.returned (Value.string ⟨(qi (n / 16)++List.drop (n % 16) _).toArray⟩)=_
   rw[yth _ (by omega)]
theorem yfh (n:Nat)(f:n < 18446744073709551616)(w:World):Calls Tryz.prog 110 #[.int .u64 n] w fun e w'=>e=.returned (.string ⟨(jf n).toArray⟩)/\w'=w:=by
 by_cases b:n=0
 ·subst b
  go_enter Tryz.func110,Tryz.ntmps110
  go_wp2;go_ret
  exact⟨rfl,rfl⟩
 ·have c:((n:Int) == 0)=false:=by rw[beq_eq_false_iff_ne];omega
  have hr:jf n=115::jd (n-1):=by unfold jf;rw[if_neg b]
  have d:=gh (n:=n-1) (by omega);have a:∀ w,Calls Tryz.prog 90 #[.int .u64 ((n:Int)-1)] w fun e w'=>e=.returned (.string ⟨(jd (n-1)).toArray⟩)/\w'=w:=fun w=>by
   rw[show((n:Int)-1)=((n-1:Nat):Int) by omega];exact x9 (n-1) (by omega) w
  rw[hr]
  go_enter Tryz.func110,Tryz.ntmps110
  go_wp2_with fail
  refine(a _).mono ?_;rintro e w' ⟨rfl,rfl⟩;clear a;go_wp2;go_ret;exact⟨rfl,rfl⟩
theorem yqh (n:Nat)(f:n < 18446744073709551616)(w:World):Calls Tryz.prog 134 #[.int .u64 n] w fun e w'=>e=.returned (.string ⟨(vc n).toArray⟩)/\w'=w:=by
 by_cases b:n=0
 ·subst b
  go_enter Tryz.func134,Tryz.ntmps134
  go_wp2;go_ret
  exact⟨rfl,rfl⟩
 ·have c:((n:Int) == 0)=false:=by rw[beq_eq_false_iff_ne];omega
  have hr:vc n=71::jd (n-1):=by unfold vc;rw[if_neg b]
  have d:=gh (n:=n-1) (by omega);have a:∀ w,Calls Tryz.prog 90 #[.int .u64 ((n:Int)-1)] w fun e w'=>e=.returned (.string ⟨(jd (n-1)).toArray⟩)/\w'=w:=fun w=>by
   rw[show((n:Int)-1)=((n-1:Nat):Int) by omega];exact x9 (n-1) (by omega) w
  rw[hr]
  go_enter Tryz.func134,Tryz.ntmps134
  go_wp2_with fail
  refine(a _).mono ?_;rintro e w' ⟨rfl,rfl⟩;clear a;go_wp2;go_ret;exact⟨rfl,rfl⟩
theorem yk5 (n:Nat)(a:n < 18446744073709551616)(w:World):Calls Tryz.prog 60 #[.int .u64 n] w fun e w'=>e=.returned (.string ⟨(66::jd n).toArray⟩)/\w'=w:=by
 have b:=gh (n:=n) (by omega)
 go_enter Tryz.func60,Tryz.ntmps60
 go_wp2_with fail
 refine(x9 n a _).mono ?_;rintro e w' ⟨rfl,rfl⟩;go_wp2;go_ret;exact⟨rfl,rfl⟩
def yr2 (k:Nat):UInt8:=if k < 26 then UInt8.ofNat (97+k) else UInt8.ofNat (22+k)
theorem cut36:∀ k,k < 36->List.drop k (97::List.take k ([98,99,100,101,102,103,104,105,106,107,108,109,110,111,112,113,114,115,116,117,118,119,120,121,122,48,49,50,51,52,53,54,55,56,57]:List UInt8))=[yr2 k]:=by decide
theorem yfb (k:Nat)(a:k < 36)(w:World):Calls Tryz.prog 182 #[.int .i64 k] w fun e w'=>e=.returned (.string ⟨#[yr2 k]⟩)/\w'=w:=by
 have hi:(k:Int) < 36:=by omega
 go_enter Tryz.func182,Tryz.ntmps182
 go_wp2;go_ret
 refine⟨?_,rfl⟩
 show Ending.returned (Value.string ⟨(List.drop k _).toArray⟩)=_
 rw[cut36 k a]
theorem yl0 (d:Nat)(b:Int)(p f:Nat):dlt d b p (f+1)=if d < (thr p b).toNat then [yr2 d]
  else yr2 ((thr p b).toNat+(d-(thr p b).toNat) % (36-(thr p b).toNat))::dlt ((d-(thr p b).toNat) / (36-(thr p b).toNat)) b (p+1) f:=by rw[dlt];rfl
theorem yf9 (d:Nat)(b:Int)(hd:d<=1099511627000)(x:0<=b)(D:b<=1000)(w:World) :
  Calls Tryz.prog 163 #[.int .i64 d,.int .i64 b] w fun e w'=>e=.returned (.string ⟨(dlt d b 1 (d+1)).toArray⟩)/\w'=w:=by
 obtain⟨R,c⟩:∃ R,R=dlt d b 1 (d+1):=⟨_,rfl⟩;rw[<-c];have j:=lh c;clear c
 go_enter Tryz.func163,Tryz.ntmps163
 go_wp2
 go_loop [0,5,6,7] (fun v0 v5 z K=>∃ (m p f:Nat) (t:List UInt8),v0=.int .i64 m/\v5=.string ⟨t.toArray⟩/\z=.int .i64 p/\Hid (R=t++dlt m b p (f+1))/\m<=f/\p+f=d+1/\t.length+1=p) (fun v0 _ z _=>d+2-(intOf z).toNat)
 case atStart=>exact⟨d,1,d,[],rfl,rfl,rfl,j,by omega,by omega,by simp⟩
 case round=>
  clear j;obtain⟨m,p,f,t,rfl,rfl,rfl,j,H,I,J⟩:=hrel;have v:=fun w=>ygj (p:Int) b w (by omega) (by omega) x (by omega);have o:=yel (p:Int) b;obtain⟨k,y⟩:∃ k:Nat,thr (p:Int) b=(k:Int):=⟨(thr (p:Int) b).toNat,by omega⟩;have c:=j.out;rw[yl0,y,Int.toNat_natCast] at c;rw[y] at v o;have A:=lh v;clear v y j
  by_cases l:m < k
  ·rw[if_pos l] at c
   have h:=lh c;clear c;have C:(m:Int) < (k:Int):=by omega
   go_wp2_with fail
   refine(A.out _).mono ?_;rintro e w' ⟨rfl,rfl⟩
   go_wp2_with fail
   refine(yfb m (by omega) _).mono ?_;rintro e w' ⟨rfl,rfl⟩;go_wp2;go_ret;refine⟨?_,rfl⟩;rw[h.out];rfl
  ·rw[if_neg l] at c
   have h:=lh c;clear c;have C:¬ (m:Int) < (k:Int):=by omega
   obtain⟨q,s⟩:∃ q,q=(m-k) % (36-k):=⟨_,rfl⟩;obtain⟨r,hr⟩:∃ r,r=(m-k) / (36-k):=⟨_,rfl⟩;have E:q < 36-k:=by rw[s];exact Nat.mod_lt _ (by omega)
   have F:r*10<=m-k:=by
    rw[hr];have:=Nat.div_le_div_left (a:=m-k) (show 10<=36-k by omega) (by omega);omega
   have i:((m:Int)-(k:Int)) % (36-(k:Int))=(q:Int):=by
    rw[s,show((m:Int)-(k:Int))=((m-k:Nat):Int) by omega,show(36-(k:Int))=((36-k:Nat):Int) by omega];rfl
   have n:((m:Int)-(k:Int)) / (36-(k:Int))=(r:Int):=by
    rw[hr,show((m:Int)-(k:Int))=((m-k:Nat):Int) by omega,show(36-(k:Int))=((36-k:Nat):Int) by omega];rfl
   rw[<-s,<-hr] at h;have G:=lh i;have u:=lh n;have B:Hid (wrap64 ((k:Int)+((m:Int)-(k:Int)) % (36-(k:Int)))=((k+q:Nat):Int)):=lh (by rw[i];simp[wrap64];omega);clear s hr i n
   go_wp2_with fail
   refine(A.out _).mono ?_;rintro e w' ⟨rfl,rfl⟩
   go_wp2_with fail
   rw[B.out];refine(yfb (k+q) (by omega) _).mono ?_;rintro e w' ⟨rfl,rfl⟩;go_wp2
   go_round
   case rel=>
    obtain⟨g,rfl⟩:∃ g,f=g+1:=⟨f-1,by omega⟩;exact⟨r,p+1,g,t++[yr2 (k+q)],by rw[u.out],rfl,by go_num,lh (by rw[h.out];simp),by omega,by omega,by simp;omega⟩
   case measure=>simp[intOf];omega
theorem ygq:∀ (k d:Nat)(b:Int)(p f:Nat),d < 10 ^ k->(dlt d b p f).length<=k+1
 | k,d,b,p,0,_=>by rw[dlt];simp
 | k,d,b,p,f+1,h=>by
  have g:=yel (p:Int) b;rw[yl0]
  split
  ·simp
  ·rename_i a
   cases k with
   | zero=>simp at h;omega
   | succ k=>
    have:(d-(thr p b).toNat) / (36-(thr p b).toNat) < 10 ^ k:=by
     rw[Nat.div_lt_iff_lt_mul (by omega)];have c:d < 10 ^ k*10:=by rw[Nat.pow_succ] at h;exact h
     have e:10 ^ k*10<=10 ^ k*(36-(thr p b).toNat):=Nat.mul_le_mul_left _ (by omega);omega
    have:=ygq k _ b (p+1) f this;rw[List.length_cons];omega
def jk (w:World)(v:Value)(l:List Int):Prop:=
 ∃ a c,v=.slice a l.length c/\l.length<=c/\c<=maxLen/\(l≠[]->∃ g o,a=some ⟨g,o,none⟩)/\∀ g o,a=some ⟨g,o,none⟩->∀ k,k < l.length->w.cell? ⟨g,o+k,none⟩=some (.int .i64 (l.getD k 0))
theorem jk.below {w w':World}{v:Value}{l:List Int}(h:jk w v l)(hb:Below w.heap.size w w'):jk w' v l:=by
 obtain⟨a,c,b,d,e,f,i⟩:=h;refine⟨a,c,b,d,e,f,fun g o j k m=>?_⟩;obtain⟨x,rfl⟩:=ybj hb;exact yf (i g o j k m) x
theorem yvh {w:World}{B:Nat}{a:Option Addr}{c:Nat}{l:List Int}(h:w.ownsRow B 3 1 (.slice a l.length c) l.length (ints l)):jk w (.slice a l.length c) l:=by
 obtain⟨s,t,b,v,i,j⟩:=zq h
 cases b
 refine⟨a,c,rfl,i,j,fun e=>?_,fun g o n k d=>?_⟩
 ·obtain⟨g,c2,sp,b,_⟩:=ybh h (List.length_pos_iff.2 e)
  cases b;exact⟨g,0,rfl⟩
 ·obtain⟨u,c2,sp,b,hB,p,f,q,r⟩:=ybh h (by omega)
  rw[n] at b
  cases b
  have m:(ints l++sp)[k]? = some (.int .i64 (l.getD k 0)):=by
   rw[List.getElem?_append_left (by rw[f];exact d)];unfold ints;rw[List.getElem?_map,lge d,lgd,lge d];rfl
  simp[World.cell?,p,m]
def nxI (least:Int)(l:List Int):Int:=l.foldl (fun nx c=>if least<=c/\(nx < 0\/c < nx) then c else nx) (-1)
theorem ylc (least:Int)(l:List Int)(c:Int):nxI least (l++[c])=if least<=c/\(nxI least l < 0\/c < nxI least l) then c else nxI least l:=by
 unfold nxI;rw[List.foldl_append];rfl
theorem ye6 {least:Int}(m:0<=least):∀ l:List Int,(nxI least l=-1/\∀ c∈l,c < least)\/(nxI least l∈l/\least<=nxI least l/\∀ c∈l,least<=c->nxI least l<=c):=by
 have j:∀ (l:List Int) (c:Int),((nxI least l=-1/\∀ c∈l,c < least)\/(nxI least l∈l/\least<=nxI least l/\∀ c∈l,least<=c->nxI least l<=c))->
   (nxI least (l++[c])=-1/\∀ x∈l++[c],x < least)\/(nxI least (l++[c])∈l++[c]/\least<=nxI least (l++[c])/\∀ x∈l++[c],least<=x->nxI least (l++[c])<=x):=by
  intro l c i;rw[ylc]
  rcases i with⟨g,f⟩|⟨g,f,k⟩
  ·by_cases b:least<=c
   ·rw[if_pos ⟨b,.inl (by omega)⟩]
    refine .inr ⟨by simp,b,fun x a e=>?_⟩
    rcases List.mem_append.1 a with a|a
    ·have:=f x a;omega
    ·rw[List.mem_singleton.1 a];omega
   ·rw[if_neg (fun h=>b h.1)]
    refine .inl ⟨g,fun x a=>?_⟩
    rcases List.mem_append.1 a with a|a
    ·exact f x a
    ·rw[List.mem_singleton.1 a];omega
  ·by_cases b:least<=c/\(nxI least l < 0\/c < nxI least l)
   ·rw[if_pos b]
    refine .inr ⟨by simp,b.1,fun x a e=>?_⟩
    rcases List.mem_append.1 a with a|a
    ·have:=k x a e;omega
    ·rw[List.mem_singleton.1 a];omega
   ·rw[if_neg b]
    refine .inr ⟨List.mem_append_left _ g,f,fun x a e=>?_⟩
    rcases List.mem_append.1 a with a|a
    ·exact k x a e
    ·rw[List.mem_singleton.1 a] at e |-
     omega
 have all:∀ (l d:List Int),((nxI least d=-1/\∀ c∈d,c < least)\/(nxI least d∈d/\least<=nxI least d/\∀ c∈d,least<=c->nxI least d<=c))->
   (nxI least (d++l)=-1/\∀ c∈d++l,c < least)\/(nxI least (d++l)∈d++l/\least<=nxI least (d++l)/\∀ c∈d++l,least<=c->nxI least (d++l)<=c):=by
  intro l
  induction l with
  | nil=>intro d h;rw[List.append_nil];exact h
  | cons c l i=>
   intro d h;have:=i (d++[c]) (j d c h)
   rwa[List.append_assoc,List.singleton_append] at this
 intro l;exact all l [] (.inl ⟨rfl,by simp⟩)
theorem yg8 {least:Int}(e:0<=least)(l:List Int):yd5 least l=if nxI least l < 0 then none else some (nxI least l):=by
 unfold yd5
 rcases ye6 e l with⟨d,b⟩|⟨d,b,f⟩
 ·rw[if_pos (by omega)]
  have:l.filter (fun c=>decide (least<=c))=[]:=by
   rw[List.filter_eq_nil_iff];intro c a;have:=b c a;simp;omega
  rw[this];rfl
 ·rw[if_neg (by omega),List.min?_eq_some_iff]
  refine⟨List.mem_filter.2 ⟨d,by simpa using b⟩,fun c a=>?_⟩;rw[List.mem_filter] at a;exact f c a.1 (by simpa using a.2)
theorem ynd {w:World}{v:Value}{l:List Int}(t:jk w v l)(C:l.length<=1000000)(least:Int)(x:0<=least) :
  Calls Tryz.prog 162 #[v,.int .i64 least] w fun e w'=>e=.returned (.int .i64 (nxI least l))/\w'=w:=by
 obtain⟨a,c,rfl,A,s,m,n⟩:=t;have r:=lh n;have q:=lh m;unfold maxLen at s;clear n m
 go_enter Tryz.func162,Tryz.ntmps162
 go_wp2
 go_loop [5,7,10] (fun v5 _ i=>∃ k:Nat,k<=l.length/\i=.int .i64 k/\v5=.int .i64 (nxI least (l.take k))) (fun _ _ i=>l.length-(intOf i).toNat)
 case atStart=>exact⟨0,by omega,rfl,rfl⟩
 case round=>
  obtain⟨k,B,rfl,rfl⟩:=hrel
  by_cases b:k < l.length
  ·obtain⟨g,o,rfl⟩:=q.out (fun h=>by rw[h] at b;simp at b)
   have u:=r.out g o rfl k b;have p:nxI least (l.take (k+1))=if least<=l.getD k 0/\(nxI least (l.take k) < 0\/l.getD k 0 < nxI least (l.take k)) then l.getD k 0 else nxI least (l.take k):=by
    rw[<-ylc]
    congr 1
    rw[lts b,lgd,lge b];rfl
   have d:=lh p;clear p;generalize l.getD k 0=z at u d;generalize nxI least (l.take k)=y at d |-
   rcases(by omega:z < least\/(least<=z/\y < 0)\/(least<=z/\0<=y/\z < y)\/(least<=z/\0<=y/\y<=z)) with h|⟨h,j⟩|⟨h,j,f⟩|⟨h,j,f⟩
   all_goals
    go_wp2
    go_round
    case rel=>exact⟨k+1,by omega,by go_num,by rw[d.out];first|rw[if_pos (by omega)]|rw[if_neg (by omega)]⟩
    case measure=>simp[intOf];omega
  ·obtain rfl:k=l.length:=by omega
   rw[List.take_length];go_wp2;go_ret;exact⟨rfl,rfl⟩
def xx (l:List Int):List UInt8:=(l.filter fun c=>decide (c < 128)).map fun c=>UInt8.ofNat c.toNat
theorem yfr (l:List Int):(xx l).length<=l.length:=by
 unfold xx;rw[List.length_map];exact List.length_filter_le _ _
theorem ym7 (l:List Int)(c:Int):xx (l++[c])=if c < 128 then xx l++[UInt8.ofNat c.toNat] else xx l:=by
 unfold xx;rw[List.filter_append,List.map_append]
 split<;>simp[*]
theorem yov {z:Int}(b:0<=z)(c:z < 128):Utf8.encode z=⟨#[UInt8.ofNat z.toNat]⟩:=by
 have a:Utf8.valid z=true:=by unfold Utf8.valid;simp;omega
 unfold Utf8.encode;simp only[a,if_true];rw[if_pos (by omega)]
theorem yf5 {nx z:Int}(y:PS)(h:z < nx):zg nx z y={ y with delta:=y.delta+1 }:=by
 unfold zg;have a:¬ z=nx:=by omega
 simp only[h,a,if_true,if_false]
theorem yf7 {nx z:Int}(y:PS)(h:z=nx):zg nx z y={ text:=y.text++dlt y.delta y.bias 1 (y.delta+1),many:=y.many+1,delta:=0,bias:=ybd y.delta (y.many+1) y.first,first:=false }:=by
 unfold zg;have a:¬ z < nx:=by omega
 simp only[a,h,if_true,if_false,Int.lt_irrefl]
theorem yf6 {nx z:Int}(y:PS)(h:nx < z):zg nx z y=y:=by
 unfold zg;have a:¬ z=nx:=by omega
 have b:¬ z < nx:=by omega
 simp only[a,b,if_false]
theorem ym4 {a b:Nat}(c:a<=1114112)(hb:b<=3661):a*b<=4078764032:=Nat.le_trans (Nat.mul_le_mul c hb) (by decide)
theorem ykt {d e:Nat}(hd:d<=61)(a:e<=4078764032):wrap64 ((d:Int)+wrap64 (e:Int))=((d+e:Nat):Int):=by
 unfold wrap64;omega
structure PBd (p q:PS)(k:Nat):Prop where
 d:q.delta<=p.delta+k
 m:q.many<=p.many+k
 b0:0<=q.bias
 b1:q.bias<=1000
 t:q.text.length<=p.text.length+20*k
theorem yk8 {nx c:Int}{p q:PS}{k:Nat}(h:PBd p q k)(hd:p.delta+k<=100000000000)(m:p.many+k<=100000000):PBd p (zg nx c q) (k+1)/\(c=nx->(zg nx c q).delta=0)/\(zg nx c q).delta<=q.delta+1:=by
 obtain⟨g,i,d,e,j⟩:=h;unfold zg
 by_cases b:c=nx
 ·subst b
  have f:=ymj (q.delta:Int) ((q.many:Int)+1) q.first (by omega) (by omega) (by omega);have l:=ygq 13 q.delta q.bias 1 (q.delta+1) (by omega);simp only[Int.lt_irrefl,if_false,if_true];refine⟨⟨by simp,by simp;omega,by simpa using f.1,by have:=f.2;simp;omega,by simp;omega⟩,fun _=>trivial,by simp⟩
 ·simp only[if_neg b]
  by_cases a:c < nx
  ·simp only[if_pos a]
   exact⟨⟨by simp;omega,by simp;omega,d,e,by simp;omega⟩,fun h=>absurd h b,by simp⟩
  ·simp only[if_neg a]
   exact⟨⟨by omega,by omega,d,e,by omega⟩,fun h=>absurd h b,by omega⟩
theorem ydi {nx:Int}{p:PS} : ∀ (l:List Int),p.delta+l.length<=100000000000->p.many+l.length<=100000000->0<=p.bias->p.bias<=1000->
  ∀ k,k<=l.length->PBd p ((l.take k).foldl (fun p c=>zg nx c p) p) k/\(nx∈l.take k->((l.take k).foldl (fun p c=>zg nx c p) p).delta<=k):=by
 intro l hd a b d k
 induction k with
 | zero=>intro _;exact⟨⟨by simp,by simp,by simpa using b,by simpa using d,by simp⟩,by simp⟩
 | succ k i=>
  intro j;obtain⟨g,h⟩:=i (by omega);rw[lts (by omega),List.foldl_append,List.foldl_cons,List.foldl_nil];obtain⟨e,f,g3⟩:=yk8 (nx:=nx) (c:=l[k]) g (by omega) (by omega);refine⟨e,fun a=>?_⟩
  rcases List.mem_append.1 a with a|a
  ·have:=h a;omega
  ·rw[f (List.mem_singleton.1 a).symm];omega
theorem yp0 {l:List Int}{a b:Int}(e:a<=b):(l.filter (fun c=>decide (b+1<=c))).length<=(l.filter (fun c=>decide (a<=c))).length:=by
 induction l with
 | nil=>simp
 | cons x l f=>
  rw[List.filter_cons,List.filter_cons]
  by_cases d:b+1<=x
  ·rw[if_pos (by simpa using d),if_pos (by simp;omega)];simp;omega
  ·rw[if_neg (by simpa using d)]
   split<;>(try simp)<;>omega
theorem yfu {a b:Int}(d:a<=b):∀ {l:List Int},b∈l->(l.filter (fun c=>decide (b+1<=c))).length < (l.filter (fun c=>decide (a<=c))).length
 | x::l,h=>by
  rw[List.filter_cons,List.filter_cons]
  rcases List.mem_cons.1 h with rfl|h
  ·rw[if_neg (by simp;omega),if_pos (by simp;omega)]
   have:=yp0 (l:=l) d;simp;omega
  ·have:=yfu d h
   by_cases e:b+1<=x
   ·rw[if_pos (by simpa using e),if_pos (by simp;omega)];simp;omega
   ·rw[if_neg (by simpa using e)]
    split<;>(try simp)<;>omega
theorem yrq {w:World}{v:Value}{l:List Int}(hI:jk w v l)(hl:l.length<=60)(hc:∀ c∈l,0<=c/\c<=1114111) :
  Calls Tryz.prog 137 #[v] w fun e w'=>e=.returned (.string ⟨(ye4 l).toArray⟩)/\w'=w:=by
 have cN:=fun least Z=>ynd (least:=least) hI (by omega) Z;have CN:=lh cN;obtain⟨a,c,rfl,h1,h2,h3,h4⟩:=hI;have H4:=lh h4;have H3:=lh h3;have HC:=lh hc;unfold maxLen at h2;obtain⟨R,hR⟩:∃ R,R=ye4 l:=⟨_,rfl⟩;rw[<-hR];have H:=lh hR;clear h4 h3 hc cN hR
 go_enter Tryz.func137,Tryz.ntmps137
 go_wp2
 go_loop [3,5,16] (fun v3 _ i=>∃ k:Nat,k<=l.length/\i=.int .i64 k/\v3=.string ⟨(xx (l.take k)).toArray⟩) (fun _ _ i=>l.length-(intOf i).toNat)
 case atStart=>exact⟨0,by omega,rfl,rfl⟩
 case round=>
  obtain⟨k,hk,rfl,rfl⟩:=hrel
  by_cases j:k < l.length
  ·obtain⟨g,o,rfl⟩:=H3.out (fun h=>by rw[h] at j;simp at j)
   have t:=H4.out g o rfl k j;have m:l.getD k 0∈l:=by rw[lgd,lge j];exact List.getElem_mem j
   have u:=HC.out _ m;have Y:=ym7 (l.take k) (l.getD k 0);rw[show l.take k++[l.getD k 0]=l.take (k+1) by rw[lts j,lgd,lge j];rfl] at Y;have X:=yfr (l.take k);rw[List.length_take] at X;have F:=lh Y;clear Y m;generalize l.getD k 0=z at t F u;generalize xx (l.take k)=U at F X |-;obtain⟨az,bv⟩:=u
   by_cases G:z < 128
   ·have kc:(convert 21 9 (.int .i32 z)).run Tryz.prog w=.ok (.string ⟨#[UInt8.ofNat z.toNat]⟩) w:=by
     rw[run_convert_int_string w _ _ _ _ (by kernel_rfl) (by kernel_rfl),yov az G]
    have br:=yov az G;go_wp2
    go_round
    case rel=>exact⟨k+1,by omega,by go_num,by rw[F.out,if_pos G]⟩
    case measure=>simp[intOf];omega
   ·go_wp2
    go_round
    case rel=>exact⟨k+1,by omega,by go_num,by rw[F.out,if_neg G]⟩
    case measure=>simp[intOf];omega
  ·obtain rfl:k=l.length:=by omega
   rw[List.take_length];have X:=yfr l;have hR:R=(qk l l.length 128 { text:=xx l++(if xx l=[] then [] else [95]),many:=(xx l).length,delta:=0,bias:=72,first:=true }).text:=H.out;generalize xx l=U at hR X |-;have a0:∀ (t0:List UInt8),t0=U++(if U=[] then [] else [95])->t0.length<=U.length+1/\Hid (R=(qk l l.length 128 { text:=t0,many:=U.length,delta:=0,bias:=72,first:=true }).text):=fun t0 h=>by
    refine⟨by rw[h,List.length_append];split<;>simp,?_⟩
    rw[h];exact hR
   have HK:=lh a0;clear hR a0 H j hk
   by_cases Z:U=[]
   ·obtain⟨g1,g2⟩:=HK.out U (by simp[Z])
    have hp:¬ (0:Int) < (U.length:Int):=by rw[Z];simp
    clear HK Z
    go_wp2_with fail
    refine(CN.out 128 (by omega)).mono ?_;rintro e w' ⟨rfl,rfl⟩;go_wp2
    go_loop [3,6,7,8,9,10,11,13,53] (fun v3 v6 v7 v8 v9 E aq _ _=>∃ (f:Nat) (b:Int) (p:PS),v3=.string ⟨p.text.toArray⟩/\v6=.int .i64 p.many/\v7=.bool p.first/\v8=.int .i64 b/\v9=.int .i64 p.delta/\E=.int .i64 p.bias/\aq=.int .i64 (nxI b l)/\
     Hid (R=(qk l f b p).text)/\(l.filter (fun c=>decide (b<=c))).length<=f/\0<=b/\b<=1114112/\p.many+60*f<=3660/\p.delta<=61/\0<=p.bias/\p.bias<=1000/\p.text.length+1200*f<=72061) (fun _ _ _ v8 _ _ _ _ _=>1114113-(intOf v8).toNat)
    case atStart=>exact⟨l.length,128,_,rfl,rfl,rfl,rfl,rfl,rfl,rfl,g2,List.length_filter_le _ _,by omega,by omega,by dsimp only;omega,by dsimp only;omega,by dsimp only;omega,by dsimp only;omega,by dsimp only;omega⟩
    case round=>
     clear g2;obtain⟨f,b,p,rfl,rfl,rfl,rfl,rfl,rfl,rfl,H,hf,N,bf,hm,hd,ah,ai,ht⟩:=hrel;have D:=ye6 N l;have s:=yg8 N l
     by_cases n:nxI b l < 0
     ·rw[if_pos n] at s
      have hp:qk l f b p=p:=by
       cases f with
       | zero=>rw[qk]
       | succ f=>rw[qk,s]
      have HP:Hid (R=p.text):=lh (by rw[H.out,hp]);have q:¬ (0:Int)<=nxI b l:=by omega
      clear s hp H D;generalize nxI b l=nx at *;go_wp2;go_ret;exact⟨by rw[HP.out];rfl,rfl⟩
     ·rw[if_neg n] at s
      obtain⟨m,am,-⟩:nxI b l∈l/\b<=nxI b l/\∀ c∈l,b<=c->nxI b l<=c:=D.resolve_left (fun h=>n (by rw[h.1];omega));have be:=(HC.out _ m).2;have al:=yfu am m;obtain⟨g,rfl⟩:∃ g,f=g+1:=⟨f-1,by omega⟩;obtain⟨e,W⟩:∃ e,e=(nxI b l-b).toNat*(p.many+1):=⟨_,rfl⟩;have ak:e<=4078764032:=by rw[W];exact ym4 (by omega) (by omega)
      have M:(nxI b l-b)*((p.many:Int)+1)=(e:Int):=by
       rw[W,Int.natCast_mul,Int.toNat_of_nonneg (by omega)];rfl
      obtain⟨r,d⟩:∃ r:PS,r={ p with delta:=p.delta+e }:=⟨_,rfl⟩;have K:R=(qk l g (nxI b l+1) { l.foldl (fun p c=>zg (nxI b l) c p) r with delta:=(l.foldl (fun p c=>zg (nxI b l) c p) r).delta+1 }).text:=by
       rw[H.out,qk,s];dsimp only;rw[<-W,<-d]
      have L:=ydi (nx:=nxI b l) (p:=r) l (by rw[d];dsimp only;omega) (by rw[d];dsimp only;omega) (by rw[d];exact ah) (by rw[d];exact ai);have A:(l.filter (fun c=>decide (nxI b l+1<=c))).length<=g:=by omega
      have I:=lh K;have HB:=lh L;have HM:=lh m;have aa:=lh A;have HE:=lh M;have q:(0:Int)<=nxI b l:=by omega
      have P:r.delta=p.delta+e:=by rw[d]
      have S:r.many=p.many:=by rw[d]
      have B:r.text=p.text:=by rw[d]
      have O:r.bias=p.bias:=by rw[d]
      have Q:r.first=p.first:=by rw[d]
      clear s D n K L m A M H al W;generalize nxI b l=nx at *;have HW:Hid (wrap64 ((p.delta:Int)+wrap64 ((nx-b)*((p.many:Int)+1)))=(r.delta:Int)):=lh (by rw[HE.out,P];exact ykt hd ak);clear d;go_wp2
      go_loop [3,6,7,9,10,13,53] (fun v3 v6 v7 v9 E _ i=>∃ (k:Nat) (y:PS),k<=l.length/\i=.int .i64 k/\Hid (y=(l.take k).foldl (fun p c=>zg nx c p) r)/\v3=.string ⟨y.text.toArray⟩/\v6=.int .i64 y.many/\v7=.bool y.first/\v9=.int .i64 y.delta/\E=.int .i64 y.bias) (fun _ _ _ _ _ _ i=>l.length-(intOf i).toNat)
      case atStart=>exact⟨0,r,by omega,rfl,lh rfl,by rw[B],by rw[S],by rw[Q],by rw[HW.out],by rw[O]⟩
      case round=>
       obtain⟨k,y,hk,rfl,V,rfl,rfl,rfl,rfl,rfl⟩:=hrel;obtain⟨⟨d1,d2,d3,d4,d5⟩,J⟩:=HB.out k hk;rw[<-V.out] at d1 d2 d3 d4 d5 J;rw[B] at d5;have bg:y.text.length<=100000:=by omega
       by_cases j:k < l.length
       ·obtain⟨gg,o,rfl⟩:=H3.out (fun h=>by rw[h] at j;simp at j)
        have t:=H4.out gg o rfl k j;have Y:(l.take (k+1)).foldl (fun p c=>zg nx c p) r=zg nx (l.getD k 0) y:=by
         rw[V.out,lts j,List.foldl_append,lgd,lge j];rfl
        have F:=lh Y;clear Y J;generalize l.getD k 0=z at t F
        rcases(by omega:z < nx\/z=nx\/nx < z) with u|u|u
        ·have x:=yf5 y u
         have C:=lh x;clear x;have T:(z == nx)=false:=by rw[beq_eq_false_iff_ne];omega
         go_wp2
         go_round
         case rel=>exact⟨k+1,{ y with delta:=y.delta+1 },by omega,by go_num,lh (by rw[F.out,C.out]),rfl,rfl,rfl,by go_num,rfl⟩
         case measure=>simp[intOf];omega
        ·have x:=yf7 y u
         have C:=lh x;clear x;have T:(z == nx)=true:=by rw[u];simp
         have ap:¬ z < nx:=by omega
         have aj:=ygq 13 y.delta y.bias 1 (y.delta+1) (by omega);have cD:=fun w=>yf9 y.delta y.bias (by omega) d3 d4 w;have cA:=fun w=>yeg (y.delta:Int) ((y.many:Int)+1) y.first w (by omega) (by omega) (by omega) (by omega);generalize dlt y.delta y.bias 1 (y.delta+1)=dl at aj cD C;generalize ybd y.delta (y.many+1) y.first=ad at cA C;have CD:=lh cD;have CA:=lh cA;clear cD cA u
         go_wp2_with fail
         refine(CD.out _).mono ?_;rintro e w' ⟨rfl,rfl⟩
         go_wp2_with fail
         refine(CA.out _).mono ?_;rintro e w' ⟨rfl,rfl⟩;go_wp2
         go_round
         case rel=>exact⟨k+1,_,by omega,by go_num,lh (by rw[F.out,C.out]),rfl,by go_num,rfl,rfl,rfl⟩
         case measure=>simp[intOf];omega
        ·have x:=yf6 y u
         have C:=lh x;clear x;have T:(z == nx)=false:=by rw[beq_eq_false_iff_ne];omega
         have ap:¬ z < nx:=by omega
         go_wp2
         go_round
         case rel=>exact⟨k+1,y,by omega,by go_num,lh (by rw[F.out,C.out]),rfl,rfl,rfl,rfl,rfl⟩
         case measure=>simp[intOf];omega
       ·obtain rfl:k=l.length:=by omega
        have hy:=V.out;rw[List.take_length] at hy J;have d7:=J HM.out;have ab:Hid (R=(qk l g (nx+1) { y with delta:=y.delta+1 }).text):=lh (by rw[I.out,<-hy]);clear hy J I V
        go_wp2_with fail
        refine(CN.out (nx+1) (by omega)).mono ?_;rintro e w' ⟨rfl,rfl⟩;go_wp2
        go_round
        case rel=>exact⟨g,nx+1,{ y with delta:=y.delta+1 },rfl,rfl,rfl,by go_num,by go_num,rfl,rfl,ab,aa.out,by omega,by omega,by dsimp only;omega,by dsimp only;omega,d3,d4,by dsimp only;omega⟩
        case measure=>simp[intOf];omega
   ·obtain⟨g1,g2⟩:=HK.out (U++[95]) (by simp[Z])
    have hp:(0:Int) < (U.length:Int):=by have:=List.length_pos_iff.2 Z;omega
    clear HK Z
    go_wp2_with fail
    refine(CN.out 128 (by omega)).mono ?_;rintro e w' ⟨rfl,rfl⟩;go_wp2
    go_loop [3,6,7,8,9,10,11,13,53] (fun v3 v6 v7 v8 v9 E aq _ _=>∃ (f:Nat) (b:Int) (p:PS),v3=.string ⟨p.text.toArray⟩/\v6=.int .i64 p.many/\v7=.bool p.first/\v8=.int .i64 b/\v9=.int .i64 p.delta/\E=.int .i64 p.bias/\aq=.int .i64 (nxI b l)/\
     Hid (R=(qk l f b p).text)/\(l.filter (fun c=>decide (b<=c))).length<=f/\0<=b/\b<=1114112/\p.many+60*f<=3660/\p.delta<=61/\0<=p.bias/\p.bias<=1000/\p.text.length+1200*f<=72061) (fun _ _ _ v8 _ _ _ _ _=>1114113-(intOf v8).toNat)
    case atStart=>exact⟨l.length,128,_,rfl,rfl,rfl,rfl,rfl,rfl,rfl,g2,List.length_filter_le _ _,by omega,by omega,by dsimp only;omega,by dsimp only;omega,by dsimp only;omega,by dsimp only;omega,by dsimp only;omega⟩
    case round=>
     clear g2;obtain⟨f,b,p,rfl,rfl,rfl,rfl,rfl,rfl,rfl,H,hf,N,bf,hm,hd,ah,ai,ht⟩:=hrel;have D:=ye6 N l;have s:=yg8 N l
     by_cases n:nxI b l < 0
     ·rw[if_pos n] at s
      have hp:qk l f b p=p:=by
       cases f with
       | zero=>rw[qk]
       | succ f=>rw[qk,s]
      have HP:Hid (R=p.text):=lh (by rw[H.out,hp]);have q:¬ (0:Int)<=nxI b l:=by omega
      clear s hp H D;generalize nxI b l=nx at *;go_wp2;go_ret;exact⟨by rw[HP.out];rfl,rfl⟩
     ·rw[if_neg n] at s
      obtain⟨m,am,-⟩:nxI b l∈l/\b<=nxI b l/\∀ c∈l,b<=c->nxI b l<=c:=D.resolve_left (fun h=>n (by rw[h.1];omega));have be:=(HC.out _ m).2;have al:=yfu am m;obtain⟨g,rfl⟩:∃ g,f=g+1:=⟨f-1,by omega⟩;obtain⟨e,W⟩:∃ e,e=(nxI b l-b).toNat*(p.many+1):=⟨_,rfl⟩;have ak:e<=4078764032:=by rw[W];exact ym4 (by omega) (by omega)
      have M:(nxI b l-b)*((p.many:Int)+1)=(e:Int):=by
       rw[W,Int.natCast_mul,Int.toNat_of_nonneg (by omega)];rfl
      obtain⟨r,d⟩:∃ r:PS,r={ p with delta:=p.delta+e }:=⟨_,rfl⟩;have K:R=(qk l g (nxI b l+1) { l.foldl (fun p c=>zg (nxI b l) c p) r with delta:=(l.foldl (fun p c=>zg (nxI b l) c p) r).delta+1 }).text:=by
       rw[H.out,qk,s];dsimp only;rw[<-W,<-d]
      have L:=ydi (nx:=nxI b l) (p:=r) l (by rw[d];dsimp only;omega) (by rw[d];dsimp only;omega) (by rw[d];exact ah) (by rw[d];exact ai);have A:(l.filter (fun c=>decide (nxI b l+1<=c))).length<=g:=by omega
      have I:=lh K;have HB:=lh L;have HM:=lh m;have aa:=lh A;have HE:=lh M;have q:(0:Int)<=nxI b l:=by omega
      have P:r.delta=p.delta+e:=by rw[d]
      have S:r.many=p.many:=by rw[d]
      have B:r.text=p.text:=by rw[d]
      have O:r.bias=p.bias:=by rw[d]
      have Q:r.first=p.first:=by rw[d]
      clear s D n K L m A M H al W;generalize nxI b l=nx at *;have HW:Hid (wrap64 ((p.delta:Int)+wrap64 ((nx-b)*((p.many:Int)+1)))=(r.delta:Int)):=lh (by rw[HE.out,P];exact ykt hd ak);clear d;go_wp2
      go_loop [3,6,7,9,10,13,53] (fun v3 v6 v7 v9 E _ i=>∃ (k:Nat) (y:PS),k<=l.length/\i=.int .i64 k/\Hid (y=(l.take k).foldl (fun p c=>zg nx c p) r)/\v3=.string ⟨y.text.toArray⟩/\v6=.int .i64 y.many/\v7=.bool y.first/\v9=.int .i64 y.delta/\E=.int .i64 y.bias) (fun _ _ _ _ _ _ i=>l.length-(intOf i).toNat)
      case atStart=>exact⟨0,r,by omega,rfl,lh rfl,by rw[B],by rw[S],by rw[Q],by rw[HW.out],by rw[O]⟩
      case round=>
       obtain⟨k,y,hk,rfl,V,rfl,rfl,rfl,rfl,rfl⟩:=hrel;obtain⟨⟨d1,d2,d3,d4,d5⟩,J⟩:=HB.out k hk;rw[<-V.out] at d1 d2 d3 d4 d5 J;rw[B] at d5;have bg:y.text.length<=100000:=by omega
       by_cases j:k < l.length
       ·obtain⟨gg,o,rfl⟩:=H3.out (fun h=>by rw[h] at j;simp at j)
        have t:=H4.out gg o rfl k j;have Y:(l.take (k+1)).foldl (fun p c=>zg nx c p) r=zg nx (l.getD k 0) y:=by
         rw[V.out,lts j,List.foldl_append,lgd,lge j];rfl
        have F:=lh Y;clear Y J;generalize l.getD k 0=z at t F
        rcases(by omega:z < nx\/z=nx\/nx < z) with u|u|u
        ·have x:=yf5 y u
         have C:=lh x;clear x;have T:(z == nx)=false:=by rw[beq_eq_false_iff_ne];omega
         go_wp2
         go_round
         case rel=>exact⟨k+1,{ y with delta:=y.delta+1 },by omega,by go_num,lh (by rw[F.out,C.out]),rfl,rfl,rfl,by go_num,rfl⟩
         case measure=>simp[intOf];omega
        ·have x:=yf7 y u
         have C:=lh x;clear x;have T:(z == nx)=true:=by rw[u];simp
         have ap:¬ z < nx:=by omega
         have aj:=ygq 13 y.delta y.bias 1 (y.delta+1) (by omega);have cD:=fun w=>yf9 y.delta y.bias (by omega) d3 d4 w;have cA:=fun w=>yeg (y.delta:Int) ((y.many:Int)+1) y.first w (by omega) (by omega) (by omega) (by omega);generalize dlt y.delta y.bias 1 (y.delta+1)=dl at aj cD C;generalize ybd y.delta (y.many+1) y.first=ad at cA C;have CD:=lh cD;have CA:=lh cA;clear cD cA u
         go_wp2_with fail
         refine(CD.out _).mono ?_;rintro e w' ⟨rfl,rfl⟩
         go_wp2_with fail
         refine(CA.out _).mono ?_;rintro e w' ⟨rfl,rfl⟩;go_wp2
         go_round
         case rel=>exact⟨k+1,_,by omega,by go_num,lh (by rw[F.out,C.out]),rfl,by go_num,rfl,rfl,rfl⟩
         case measure=>simp[intOf];omega
        ·have x:=yf6 y u
         have C:=lh x;clear x;have T:(z == nx)=false:=by rw[beq_eq_false_iff_ne];omega
         have ap:¬ z < nx:=by omega
         go_wp2
         go_round
         case rel=>exact⟨k+1,y,by omega,by go_num,lh (by rw[F.out,C.out]),rfl,rfl,rfl,rfl,rfl⟩
         case measure=>simp[intOf];omega
       ·obtain rfl:k=l.length:=by omega
        have hy:=V.out;rw[List.take_length] at hy J;have d7:=J HM.out;have ab:Hid (R=(qk l g (nx+1) { y with delta:=y.delta+1 }).text):=lh (by rw[I.out,<-hy]);clear hy J I V
        go_wp2_with fail
        refine(CN.out (nx+1) (by omega)).mono ?_;rintro e w' ⟨rfl,rfl⟩;go_wp2
        go_round
        case rel=>exact⟨g,nx+1,{ y with delta:=y.delta+1 },rfl,rfl,rfl,by go_num,by go_num,rfl,rfl,ab,aa.out,by omega,by omega,by dsimp only;omega,by dsimp only;omega,d3,d4,by dsimp only;omega⟩
        case measure=>simp[intOf];omega
def yec (w : World) : Prop := Lib.TabIs Tryz.prog w "internal/strconv.uint64pow10" .u64 Lib.pow10Tab
theorem yec.below {w w':World}(h:yec w)(hb:Below w.heap.size w w'):yec w':=by
 have a : (Tryz.prog.globalNamed "internal/strconv.uint64pow10").isSome = true := by kernel_rfl
 obtain⟨g,b⟩:=Option.isSome_iff_exists.1 a;exact Joins.tab_stays b h hb (Nat.le_refl _)
theorem yjc (n:Nat)(h:n < 18446744073709551616):(Lib.decDigits n).length<=20:=yag n h
theorem ydv {l:List UInt8}(h:l.length < 18446744073709551616):(j9 l).length<=21+l.length:=by
 have:=yjc l.length h;unfold j9;rw[List.length_append,List.length_append]
 split<;>simp<;>omega
theorem ynb (c:UInt8):x7 (c.toNat:Int)=kt c:=by
 unfold x7 kt;rw[decide_eq_decide];omega
theorem yin (l:List UInt8)(u:l.length<=1000000000)(i:l≠[])(w:World)(p:yec w):Calls Tryz.prog 136 #[.string ⟨l.toArray⟩] w fun e w'=>e=.returned (.string ⟨(j9 l).toArray⟩)/\Below w.heap.size w w':=by
 have hi:=Tryz.strconv_Itoa (l.length:Int) (by omega) (by omega) w p;have s:Lib.itoa (l.length:Int)=Lib.decDigits l.length:=by unfold Lib.itoa;rw[if_neg (by omega)];rfl
 rw[s] at hi;have o:=yjc l.length (by omega);obtain⟨c,r,rfl⟩:∃ c r,l=c::r:=by
  cases l with
  | nil=>exact absurd rfl i
  | cons c r=>exact⟨c,r,rfl⟩
 have m:=fun w=>yef (c.toNat:Int) w;rw[ynb] at m;obtain⟨n,f⟩:∃ n,n=Lib.decDigits (c::r).length:=⟨_,rfl⟩;have a:j9 (c::r)=n++(if kt c=true\/c=95 then [95] else [])++(c::r):=by rw[f];rfl
 rw[<-f] at hi o;have v:r.length+1<=1000000000:=by simpa using u
 have j:=lh hi;have h:=lh m;clear p s i f hi m
 cases g:kt c with
 | true=>
  rw[g] at h;rw[if_pos (.inl g)] at a;have d:=lh a;clear a g
  go_enter Tryz.func136,Tryz.ntmps136
  go_wp2_with fail
  refine(h.out _).mono ?_;rintro e w' ⟨rfl,rfl⟩
  go_wp2_with fail
  refine j.out.mono ?_;rintro e t ⟨rfl,k,os,rfl⟩;go_wp2;go_ret;exact⟨by rw[d.out];simp,Lib.below_grow _ _ (Nat.le_refl _) _ _⟩
 | false=>
  rw[g] at h
  by_cases b:c=95
  ·rw[if_pos (.inr b)] at a
   have q:((c.toNat:Int) == 95)=true:=by rw[b];rfl
   have d:=lh a;clear a g b
   go_enter Tryz.func136,Tryz.ntmps136
   go_wp2_with fail
   refine(h.out _).mono ?_;rintro e w' ⟨rfl,rfl⟩
   go_wp2_with fail
   refine j.out.mono ?_;rintro e t ⟨rfl,k,os,rfl⟩;go_wp2;go_ret;exact⟨by rw[d.out];simp,Lib.below_grow _ _ (Nat.le_refl _) _ _⟩
  ·rw[if_neg (by rw[g];simp;exact b)] at a
   have q:((c.toNat:Int) == 95)=false:=u8f (c:=95) (by omega) b;have d:=lh a;clear a g b
   go_enter Tryz.func136,Tryz.ntmps136
   go_wp2_with fail
   refine(h.out _).mono ?_;rintro e w' ⟨rfl,rfl⟩
   go_wp2_with fail
   refine j.out.mono ?_;rintro e t ⟨rfl,k,os,rfl⟩;go_wp2;go_ret;exact⟨by rw[d.out];simp,Lib.below_grow _ _ (Nat.le_refl _) _ _⟩
theorem ye3 {l:List Int}(w:l.length<=60)(q:∀ c∈l,0<=c/\c<=1114111):∀ (f:Nat) (a:Int) (p:PS),0<=a->p.many+60*f<=3660->p.delta<=61->0<=p.bias->p.bias<=1000->(qk l f a p).text.length<=p.text.length+1200*f
 | 0,a,p,_,_,_,_,_=>by rw[qk];omega
 | f+1,a,p,o,A,hd,m,n=>by
  rw[qk];have e:=yg8 o l
  by_cases d:nxI a l < 0
  ·rw[if_pos d] at e
   rw[e];dsimp only;omega
  ·rw[if_neg d] at e
   rw[e];dsimp only;obtain⟨g,v,-⟩:nxI a l∈l/\a<=nxI a l/\∀ c∈l,a<=c->nxI a l<=c:=(ye6 o l).resolve_left (fun h=>d (by rw[h.1];omega));have x:=(q _ g).2;have z:(nxI a l-a).toNat*(p.many+1)<=4078764032:=ym4 (by omega) (by omega);obtain⟨i,b⟩:∃ i:PS,i={ p with delta:=p.delta+(nxI a l-a).toNat*(p.many+1) }:=⟨_,rfl⟩;have j:=ydi (nx:=nxI a l) (p:=i) l (by rw[b];dsimp only;omega) (by rw[b];dsimp only;omega) (by rw[b];exact m) (by rw[b];exact n) l.length (Nat.le_refl _);rw[List.take_length] at j;obtain⟨⟨d1,d2,d3,s,t⟩,u⟩:=j;have y:=u g;rw[<-b];have r:i.many=p.many:=by rw[b]
   have k:i.text=p.text:=by rw[b]
   rw[k] at t;have:=ye3 w q f (nxI a l+1) { l.foldl (fun p c=>zg (nxI a l) c p) i with delta:=(l.foldl (fun p c=>zg (nxI a l) c p) i).delta+1 } (by omega) (by dsimp only;omega) (by dsimp only;omega) d3 s;dsimp only at this;omega
theorem yk7 {l:List Int}(b:l.length<=60)(a:∀ c∈l,0<=c/\c<=1114111):(ye4 l).length<=73000:=by
 have d:=yfr l;have h:ye4 l=(qk l l.length 128 { text:=xx l++(if xx l=[] then [] else [95]),many:=(xx l).length,delta:=0,bias:=72,first:=true }).text:=rfl;have:=ye3 b a l.length 128 { text:=xx l++(if xx l=[] then [] else [95]),many:=(xx l).length,delta:=0,bias:=72,first:=true } (by omega) (by dsimp only;omega) (by dsimp only;omega) (by dsimp only;omega) (by dsimp only;omega);rw[h];dsimp only at this;have e:(xx l++(if xx l=[] then [] else [95])).length<=61:=by rw[List.length_append];split<;>simp<;>omega
 omega
theorem yjf {nm:List UInt8}{l:List Int}(h:ga nm=some l):∀ c∈l,0<=c/\c<=1114111:=fun c d=>by
 obtain⟨-,b⟩:=yet h;obtain⟨e,a⟩:=b c d;unfold Utf8.valid at a;simp at a;omega
def NmW (nm:List UInt8):Prop:=nm=[]\/zh nm=true
theorem ygp {nm:List UInt8}(h:NmW nm):(vr nm).length<=74000:=by
 unfold vr
 split
 ·simp
 ·rename_i c
  have a:=h.resolve_left c
  split
  ·rename_i e
   have b:jr nm=true:=by unfold jr;rw[e];cases nm;exact absurd rfl c;rfl
   have f:nm.length<=1000:=by unfold zh at a;rw[if_pos b] at a;simpa using a
   have:=ydv (l:=nm) (by omega);omega
  ·rename_i e
   have b:jr nm=false:=by unfold jr;rw[show nm.all yr=false by simpa using e];rfl
   unfold zh at a;rw[if_neg (by rw[b];decide)] at a
   cases d:ga nm with
   | none=>rw[d] at a;cases a
   | some l=>
    rw[d] at a;simp only[Bool.and_eq_true,decide_eq_true_eq] at a;have f:=yk7 a.1.2 (yjf d);have:=ydv (l:=ye4 l) (by omega);rw[Option.getD_some,List.length_cons];omega
end Go.Proofs.YtfckcdbpiepchaaGreatDoor
