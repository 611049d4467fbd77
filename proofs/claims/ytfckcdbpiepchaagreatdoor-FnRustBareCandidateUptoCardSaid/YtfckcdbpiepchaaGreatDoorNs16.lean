import Derived.Test.YtfckcdbpiepchaaGreatDoorNs15
namespace Go.Proofs.YtfckcdbpiepchaaGreatDoor
open Go.RowKit
set_option maxRecDepth 100000
set_option maxHeartbeats 8000000
set_option linter.all false
def ya.ne:ya->Bool
 | .mk k _ _ n _ kids=>(decide (k=6->2<=kids.length)&&decide (k=20->n < 18446744073709551616))&&kids.attach.all fun⟨x,_⟩=>x.ne
theorem jo (k:Nat)(l:UInt8)(nm:List UInt8)(n:Nat)(f:Bool)(kids:List ya):(ya.mk k l nm n f kids).ne=true↔(k=6->2<=kids.length)/\(k=20->n < 18446744073709551616)/\∀ x∈kids,x.ne=true:=by
 rw[ya.ne,Bool.and_eq_true,Bool.and_eq_true,decide_eq_true_eq,decide_eq_true_eq,List.all_eq_true]
 constructor
 ·rintro ⟨⟨a,b⟩,c⟩
  exact⟨a,b,fun x d=>c ⟨x,d⟩ (List.mem_attach _ _)⟩
 ·rintro ⟨a,b,c⟩
  exact⟨⟨a,b⟩,fun⟨x,d⟩ _=>c x d⟩
def ya.ne2:ya->Bool
 | .mk k _ _ n _ kids=>(decide (k=17->2<=kids.length->(kids.headD .zero).kind=6->2<=(kids.headD .zero).kids.length)&&decide (k=20->n < 18446744073709551616))&&kids.attach.all fun⟨x,_⟩=>x.ne2
theorem yzs (k:Nat)(l:UInt8)(nm:List UInt8)(n:Nat)(f:Bool)(kids:List ya):(ya.mk k l nm n f kids).ne2=true↔(k=17->2<=kids.length->(kids.headD .zero).kind=6->2<=(kids.headD .zero).kids.length)/\(k=20->n < 18446744073709551616)/\∀ x∈kids,x.ne2=true:=by
 rw[ya.ne2,Bool.and_eq_true,Bool.and_eq_true,decide_eq_true_eq,decide_eq_true_eq,List.all_eq_true]
 constructor
 ·rintro ⟨⟨a,b⟩,c⟩
  exact⟨a,b,fun x d=>c ⟨x,d⟩ (List.mem_attach _ _)⟩
 ·rintro ⟨a,b,c⟩
  exact⟨⟨a,b⟩,fun⟨x,d⟩ _=>c x d⟩
theorem ybi {a:List ya}{i:Nat}(h:i < a.length):a.getD i .zero∈a:=by
 rw[lgd,lge h];exact List.getElem_mem h
theorem xn {a:List ya}{t:ya}(h:t∈a):t.wt<=(a.map ya.wt).sum:=by
 induction a with
 | nil=>simp at h
 | cons y a b=>
  rw[List.map_cons,List.sum_cons]
  rcases List.mem_cons.1 h with rfl|h
  ·omega
  ·have:=b h;omega
theorem vx:∀ a:List ya,a.length<=(a.map ya.wt).sum
 | []=>Nat.le_refl _
 | y::a=>by
  have:=vx a;have:=yei y;rw[List.map_cons,List.sum_cons,List.length_cons];omega
theorem yhg (sep:List UInt8)(d:sep.length<=50):∀ (a:List ya) (xs:List (List UInt8)),xs.length=a.length->(∀ i,i < a.length->(xs.getD i []).length+50<=2000*(a.getD i .zero).wt)->((xs.map fun y=>sep++y).flatten).length<=2000*(a.map ya.wt).sum
 | [],[],_,_=>by simp
 | y::a,x::xs,h,hi=>by
  have e:=yhg sep d a xs (by simpa using h) fun i c=>by
   have:=hi (i+1) (by simpa using c)
   simpa using this
  have b:=hi 0 (by simp);simp only[List.getD_cons_zero] at b;rw[List.map_cons,List.flatten_cons,List.length_append,List.length_append,List.map_cons,List.sum_cons];omega
theorem ycn (sep:List UInt8)(c:sep.length<=50)(a:List ya)(xs:List (List UInt8))(h:xs.length=a.length)(hi:∀ i,i < a.length->(xs.getD i []).length+50<=2000*(a.getD i .zero).wt):(zl sep xs).length<=2000*(a.map ya.wt).sum:=by
 have b:=yhg sep c a xs h hi
 cases xs with
 | nil=>unfold zl;simp
 | cons x xs=>
  unfold zl;rw[List.map_cons,List.flatten_cons,List.length_append,List.length_append] at b;rw[List.length_append];omega
theorem ysn (sep:List UInt8)(ys T:List (List UInt8))(h:ys≠[]):zl sep (ys++T)=zl sep ys++(T.map fun y=>sep++y).flatten:=by
 cases ys with
 | nil=>exact absurd rfl h
 | cons y ys=>simp[zl]
def xv (a:List ya)(xs:List (List UInt8)):List (List UInt8):=(List.range a.length).map fun i=>(a.getD i .zero).name++[32,61,32]++xs.getD i []
theorem yc5 (a:List ya)(xs:List (List UInt8)):(xv a xs).length=a.length:=by simp[xv]
theorem yns (a:List ya)(xs:List (List UInt8)){i:Nat}(h:i < a.length):(xv a xs).getD i []=(a.getD i .zero).name++[32,61,32]++xs.getD i []:=by
 unfold xv;rw[lgd,List.getElem?_map,List.getElem?_range h];rfl
def yh9:Md->Nat->ya->List UInt8->Prop
 | .path v,b,t,x=>(1<=t.kind/\t.kind<=6)/\yam b v t x
 | .type,b,t,x=>(1<=t.kind/\t.kind<=16)/\gb b t x
 | .arg,b,t,x=>ymm b t x
 | .const,_,t,x=>(t.kind=20\/t.kind=21)/\(t.kind=20->t.letter=99->t.num<=255)/\x=yeb t
 | .bound,b,t,x=>yjr b t x
theorem ymg {b:Nat}{a:List ya}{xs:List (List UInt8)}(hb:b<=20)(hw:(a.map ya.wt).sum<=300)(p:∀ x∈a,x.ne2=true)
  (l:∀ i,i < a.length->∃ nm2 n2 f2 l2 t,a.getD i .zero=.mk 18 l2 nm2 n2 f2 [t]/\yan nm2)
  (m:∀ i t,i < a.length->(a.getD i .zero).kids=[t]->b<=20->t.wt<=300->t.ne2=true->(xs.getD i []).length+50<=2000*t.wt/\yh9 .type b t (xs.getD i [])) :
  (∀ i,i < a.length->yo5 b (a.getD i .zero) ((xv a xs).getD i []))/\∀ i,i < a.length->((xv a xs).getD i []).length+50<=2000*(a.getD i .zero).wt:=by
 have e:∀ i,i < a.length->yo5 b (a.getD i .zero) ((xv a xs).getD i [])/\((xv a xs).getD i []).length+50<=2000*(a.getD i .zero).wt:=by
  intro i hi;obtain⟨nm2,n2,f2,l2,t,c,n⟩:=l i hi;have j:=ybi hi;have q:=xn j;have d:=p _ j;have h:(a.getD i .zero).wt=1+t.wt:=by rw[c,zd];simp
  have f:t.ne2=true:=by rw[c,yzs] at d;exact d.2.2 t (by simp)
  obtain⟨r,k⟩:=m i t hi (by rw[c];rfl) hb (by omega) f;have o:=n.le;have g:(a.getD i .zero).name=nm2:=by rw[c];rfl
  rw[yns a xs hi,g];refine⟨⟨l2,nm2,n2,f2,t,xs.getD i [],c,by omega,by omega,k.2,rfl⟩,?_⟩;rw[h];simp only[List.length_append,List.length_cons,List.length_nil];omega
 exact⟨fun i hi=>(e i hi).1,fun i hi=>(e i hi).2⟩
theorem yld {c:UInt8}{n:Nat}{f:Bool}(h:n < 18446744073709551616):(gv c n f).length<=21:=by
 have:=yag n h;unfold gv
 split
 ·split<;>simp
 ·split
  ·simp
  ·split
   ·rw[List.length_cons];omega
   ·omega
theorem ycc (n b:Nat):(zc n b).length=2:=by unfold zc;split<;>rfl
theorem ydl (l:UInt8)(nm:List UInt8)(n:Nat)(f:Bool)(kids:List ya):ya0 (.mk 5 l nm n f kids) =
  if l=67\/l=83 then [123]++(if l=67 then [99,108,111,115,117,114,101] else [115,104,105,109])++(if nm=[] then [] else 58::nm)++(35::(Lib.decDigits n++[125])) else nm:=rfl
theorem yzt {md:Md}{b:Nat}{t:ya}{x:List UInt8}(h:qq false md b t x):b<=20->t.wt<=300->t.ne2=true->x.length+50<=2000*t.wt/\yh9 md b t x:=by
 induction h with
 | @crate v b l nm n f F=>
  intro _ _ _;have:=F.le;exact⟨by rw[zd];simp;omega,⟨by simp[ya.kind],by simp[ya.kind]⟩,yq6⟩
 | @impl v b l nm n f p t x y _ _ _ r=>
  intro hb hw d;rw[zd] at hw |-;rw[yzs] at d;simp only[List.map_cons,List.map_nil,List.sum_cons,List.sum_nil] at hw |-;obtain⟨s,e⟩:=r hb (by omega) (d.2.2 t (by simp));exact⟨by simp;omega,⟨by simp[ya.kind],by simp[ya.kind]⟩,yuo (by omega) e.2⟩
 | @timpl v b l nm n f p t q x y z _ _ _ _ r j=>
  intro hb hw d;rw[zd] at hw |-;rw[yzs] at d;simp only[List.map_cons,List.map_nil,List.sum_cons,List.sum_nil] at hw |-;obtain⟨s,e⟩:=r hb (by omega) (d.2.2 t (by simp));obtain⟨g3,g4⟩:=j hb (by omega) (d.2.2 q (by simp));exact⟨by simp;omega,⟨by simp[ya.kind],by simp[ya.kind]⟩,yq5 (by omega) (by omega) e.2 g4.2⟩
 | @tdef v b l nm n f t q x z _ _ r j=>
  intro hb hw d;rw[zd] at hw |-;rw[yzs] at d;simp only[List.map_cons,List.map_nil,List.sum_cons,List.sum_nil] at hw |-;obtain⟨s,e⟩:=r hb (by omega) (d.2.2 t (by simp));obtain⟨g3,g4⟩:=j hb (by omega) (d.2.2 q (by simp));exact⟨by simp;omega,⟨by simp[ya.kind],by simp[ya.kind]⟩,yun (by omega) (by omega) e.2 g4.2⟩
 | @small v b l nm n f p x u F _ r=>
  intro hb hw d;rw[zd] at hw |-;rw[yzs] at d;simp only[List.map_cons,List.map_nil,List.sum_cons,List.sum_nil] at hw |-;obtain⟨s,e⟩:=r hb (by omega) (d.2.2 p (by simp));have G:=F.le;refine⟨by simp;omega,⟨by simp[ya.kind],by simp[ya.kind]⟩,yir (by omega) G e.2 ?_ (by omega)⟩;rw[ydl,if_neg (by rintro (rfl|rfl)<;>simp at u)]
 | @special v b l nm n f p x u F Y _ r=>
  intro hb hw d;rw[zd] at hw |-;rw[yzs] at d;simp only[List.map_cons,List.map_nil,List.sum_cons,List.sum_nil] at hw |-;obtain⟨s,e⟩:=r hb (by omega) (d.2.2 p (by simp));have G:nm.length<=1000:=by rcases F with rfl|F;simp;exact F.le
  have hd:=yag n (by omega);have hs:((if l=67 then [99,108,111,115,117,114,101] else [115,104,105,109]):List UInt8).length<=7:=by split<;>simp
  have ad:((if nm=[] then [] else 58::nm):List UInt8).length<=1001:=by split<;>simp;omega
  refine⟨by simp only[List.length_append,List.length_cons,List.length_nil];omega,⟨by simp[ya.kind],by simp[ya.kind]⟩,?_⟩;have:=yir (b:=b) (v:=v) (l:=l) (nm:=nm) (n:=n) (f:=f) (p:=p) (x:=x) (by omega) G e.2 rfl (by
   rw[ydl,if_pos u];simp only[List.length_append,List.length_cons,List.length_nil]
   omega)
  rw[ydl,if_pos u] at this
  simpa [List.append_assoc] using this
 | @gen v b l nm n f p x a xs u _ _ g j=>
  intro hb hw d;rw[zd] at hw |-;rw[yzs] at d;simp only[List.map_cons,List.sum_cons] at hw |-;obtain⟨s,e⟩:=j hb (by omega) (d.2.2 p (by simp));have o:∀ i,i < a.length->(xs.getD i []).length+50<=2000*(a.getD i .zero).wt/\yh9 .arg b (a.getD i .zero) (xs.getD i []):=fun i hi=>by
   have A:=ybi hi;have:=xn A;exact g i hi hb (by omega) (d.2.2 _ (List.mem_cons_of_mem _ A))
  have L:=ycn [44,32] (by simp) a xs u (fun i hi=>(o i hi).1);have C:=vx a;simp only[Bool.false_eq_true,if_false];have R:((if v=true then [58,58] else []):List UInt8).length<=2:=by split<;>simp
  exact⟨by simp only[List.length_append,List.length_cons,List.length_nil];omega,⟨by simp[ya.kind],by simp[ya.kind]⟩,yxk u (by omega) (fun i hi=>(o i hi).2) hb (by omega) (by omega) e.2⟩
 | @path b t x _ r=>
  intro hb hw d;obtain⟨s,e,g3⟩:=r hb hw d;exact⟨s,⟨e.1,by omega⟩,yuj e g3⟩
 | @basic b l nm n f x I=>
  intro hb hw d;have X:x.length<=5:=(yh0 I).2;exact⟨by rw[zd];simp;omega,⟨by simp[ya.kind],by simp[ya.kind]⟩,yq3 (by unfold yhz;rw[I];rfl)⟩
 | @array b l nm n f t c x y _ _ g j=>
  intro hb hw d;rw[zd] at hw |-;rw[yzs] at d;simp only[List.map_cons,List.map_nil,List.sum_cons,List.sum_nil] at hw |-;obtain⟨s,e⟩:=g hb (by omega) (d.2.2 t (by simp));obtain⟨g3,g4⟩:=j hb (by omega) (d.2.2 c (by simp));exact⟨by simp;omega,⟨by simp[ya.kind],by simp[ya.kind]⟩,yq4 (by omega) (by omega) e.2 g4.1 g4.2.1 g4.2.2.symm⟩
 | @slice b l nm n f t x _ r=>
  intro hb hw d;rw[zd] at hw |-;rw[yzs] at d;simp only[List.map_cons,List.map_nil,List.sum_cons,List.sum_nil] at hw |-;obtain⟨s,e⟩:=r hb (by omega) (d.2.2 t (by simp));exact⟨by simp;omega,⟨by simp[ya.kind],by simp[ya.kind]⟩,yq2 (by omega) e.2⟩
 | @tuple b l nm n f a xs u _ g=>
  intro hb hw d;rw[zd] at hw |-;rw[yzs] at d;have o:∀ i,i < a.length->(xs.getD i []).length+50<=2000*(a.getD i .zero).wt/\yh9 .type b (a.getD i .zero) (xs.getD i []):=fun i hi=>by
   have A:=ybi hi;have:=xn A;exact g i hi hb (by omega) (d.2.2 _ A)
  have L:=ycn [44,32] (by simp) a xs u (fun i hi=>(o i hi).1);have C:=vx a;have R:((if a.length=1 then [44] else []):List UInt8).length<=1:=by split<;>simp
  exact⟨by simp only[List.length_append,List.length_cons,List.length_nil];omega,⟨by simp[ya.kind],by simp[ya.kind]⟩,yq1 u (by omega) (fun i hi=>(o i hi).2.2) (by omega)⟩
 | @ref b k l nm n f t x o D _ r=>
  intro hb hw d;rw[zd] at hw |-;rw[yzs] at d;simp only[List.map_cons,List.map_nil,List.sum_cons,List.sum_nil] at hw |-;obtain⟨s,e⟩:=r hb (by omega) (d.2.2 t (by simp));have R:((if n=0 then [] else zc n b++[32]):List UInt8).length<=3:=by split;simp;simp[ycc]
  have ae:((if k=12 then [109,117,116,32] else []):List UInt8).length<=4:=by split<;>simp
  refine⟨by simp only[List.length_append,List.length_cons,List.length_nil];omega,⟨by simp[ya.kind];omega,by simp[ya.kind];omega⟩,?_⟩
  rcases o with rfl|rfl
  ·exact yxi (by omega) D hb e.2
  ·exact yxj (by omega) D hb e.2
 | @ptr b k l nm n f t x o _ r=>
  intro hb hw d;rw[zd] at hw |-;rw[yzs] at d;simp only[List.map_cons,List.map_nil,List.sum_cons,List.sum_nil] at hw |-;obtain⟨s,e⟩:=r hb (by omega) (d.2.2 t (by simp));have R:((if k=13 then [42,99,111,110,115,116,32] else [42,109,117,116,32]):List UInt8).length<=7:=by split<;>simp
  refine⟨by simp only[List.length_append];omega,⟨by simp[ya.kind];omega,by simp[ya.kind];omega⟩,?_⟩
  rcases o with rfl|rfl
  ·exact yul (by omega) e.2
  ·exact yuk (by omega) e.2
 | @fn b l nm n f a xs t x B P u _ _ hu g j=>
  intro hb hw d;rw[zd] at hw |-;rw[yzs] at d;simp only[List.map_append,List.map_cons,List.map_nil,List.sum_append,List.sum_cons,List.sum_nil] at hw |-;have o:∀ i,i < a.length->(xs.getD i []).length+50<=2000*(a.getD i .zero).wt/\yh9 .type (b+n) (a.getD i .zero) (xs.getD i []):=fun i hi=>by
   have A:=ybi hi;have:=xn A;exact g i hi B (by omega) (d.2.2 _ (List.mem_append_left _ A))
  obtain⟨s,e⟩:=j B (by omega) (d.2.2 t (by simp));have L:=ycn [44,32] (by simp) a xs u (fun i hi=>(o i hi).1);have C:=vx a;have O:=xa (n:=n) (b:=b) (by omega);have N:((if f=true then [117,110,115,97,102,101,32] else []):List UInt8).length<=7:=by split<;>simp
  have V:(kr nm).length<=30:=by unfold kr;split;simp;simp only[List.length_append,List.length_cons,List.length_nil];omega
  have Z:((if isU t=true then [] else [32,45,62,32]++x):List UInt8).length<=x.length+4:=by split<;>simp
  refine⟨by simp only[List.length_append,List.length_cons,List.length_nil];omega,⟨by simp[ya.kind],by simp[ya.kind]⟩,yq0 (.inl rfl) ?_⟩;intro w tv Q;exact ynf Q B P u (by omega) (fun i hi=>(o i hi).2.2) (by omega) (by omega) e.2 e.1.1
 | @dyn b l nm n m f a xs l2 nm2 f2 B A K u _ g=>
  intro hb hw d;rw[zd] at hw |-;rw[yzs] at d;simp only[List.map_append,List.map_cons,List.map_nil,List.sum_append,List.sum_cons,List.sum_nil] at hw |-;have o:∀ i,i < a.length->(xs.getD i []).length+50<=2000*(a.getD i .zero).wt/\yh9 .bound (b+n) (a.getD i .zero) (xs.getD i []):=fun i hi=>by
   have A:=ybi hi;have:=xn A;exact g i hi B (by omega) (d.2.2 _ (List.mem_append_left _ A))
  have L:=ycn [32,43,32] (by simp) a xs u (fun i hi=>(o i hi).1);have C:=vx a;have O:=xa (n:=n) (b:=b) (by omega);have Z:((if m=0 then [] else [32,43,32]++zc m b):List UInt8).length<=5:=by split;simp;simp[ycc]
  refine⟨by simp only[List.length_append,List.length_cons,List.length_nil];omega,⟨by simp[ya.kind],by simp[ya.kind]⟩,yq0 (.inr rfl) ?_⟩;intro w tv Q;exact yly Q B A u (by omega) (fun i hi=>(o i hi).2) (by omega)
 | @life b l nm n f D=>
  intro hb hw d;exact⟨by rw[zd,ycc];simp<;>omega,.inl ⟨rfl,D,rfl⟩⟩
 | argC _ r=>
  intro hb hw d;obtain⟨s,e⟩:=r hb hw d;exact⟨s,.inr (.inl e)⟩
 | argT _ r=>
  intro hb hw d;obtain⟨s,e⟩:=r hb hw d;exact⟨s,.inr (.inr ⟨e.1.1,e.1.2,e.2⟩)⟩
 | @num b l nm n f o=>
  intro hb hw d;rw[yzs] at d;have:=yld (c:=l) (f:=f) (d.2.1 rfl);refine⟨by rw[zd];omega,.inl rfl,?_,rfl⟩;intro _ J;simp only[ya.letter] at J;subst J;simp only[ya.num];unfold qv at o;rw[if_neg (by decide),if_pos rfl] at o;simp at o;omega
 | @hole b l nm n f=>
  intro hb hw d;exact⟨by rw[zd];simp<;>omega,.inr rfl,fun h=>by simp[ya.kind] at h,rfl⟩
 | @bound0 b l nm n f p x _ r=>
  intro hb hw d;rw[zd] at hw |-;rw[yzs] at d;simp only[List.map_cons,List.map_nil,List.sum_cons,List.sum_nil] at hw |-;obtain⟨s,e⟩:=r hb (by omega) (d.2.2 p (by simp));exact⟨by omega,ynr e.2⟩
 | @boundP b l nm n f p x a xs o K u N _ _ g j=>
  intro hb hw d;rw[zd] at hw |-;rw[yzs] at d;simp only[List.map_cons,List.sum_cons] at hw |-;obtain⟨s,e⟩:=j hb (by omega) (d.2.2 p (by simp));obtain⟨k1,k2⟩:=ymg (xs:=xs) hb (by omega) (fun x I=>d.2.2 x (by simp[I])) N g;have L:=ycn [44,32] (by simp) a (xv a xs) (yc5 a xs) k2;have C:=vx a;refine⟨?_,ynp (T:=xv a xs) o e.1.1 K (yc5 a xs) (by omega) k1 (by omega) (by omega) e.2⟩
  show(x++[60]++zl [44,32] (xv a xs)++[62]).length+50<=_
  simp only[List.length_append,List.length_cons,List.length_nil];omega
 | @boundG b l nm n f l3 nm3 n3 f3 q x a c xs ys E _ _ K u N _ U j g=>
  intro hb hw d;rw[zd] at hw |-;rw[yzs] at d;simp only[List.map_cons,List.sum_cons] at hw |-;have H:=d.2.2 _ List.mem_cons_self;rw[yzs] at H;rw[zd] at hw |-;simp only[List.map_cons,List.sum_cons] at hw |-;have W:c≠[]:=by
   have V:=d.1 rfl (by have:=List.length_pos_iff.2 K;simp;omega) rfl;rintro rfl;simp[ya.kids] at V
  obtain⟨s,e⟩:=j hb (by omega) (H.2.2 q (by simp));obtain⟨k1,k2⟩:=ymg (xs:=xs) hb (by omega) (fun x I=>d.2.2 x (by simp[I])) N g;have o:∀ i,i < c.length->(ys.getD i []).length+50<=2000*(c.getD i .zero).wt/\yh9 .arg b (c.getD i .zero) (ys.getD i []):=fun i hi=>by
   have A:=ybi hi;have:=xn A;exact U i hi hb (by omega) (H.2.2 _ (List.mem_cons_of_mem _ A))
  have L:=ycn [44,32] (by simp) c ys E (fun i hi=>(o i hi).1);have ac:=yhg [44,32] (by simp) a (xv a xs) (yc5 a xs) k2;have C:=vx a;have aa:=vx c;have S:ys≠[]:=fun h=>by rw[h] at E;exact W (List.eq_nil_of_length_eq_zero E.symm)
  have he:(((List.range a.length).map fun i=>[44,32]++((a.getD i .zero).name++[32,61,32]++xs.getD i [])).flatten)=((xv a xs).map fun y=>[44,32]++y).flatten:=by
   unfold xv;rw[List.map_map];rfl
  have M:=ysn [44,32] ys (xv a xs) S;simp only[Bool.false_eq_true,if_false];rw[he];refine⟨by simp only[List.length_append,List.length_cons,List.length_nil];omega,?_⟩;have:=ynq (b:=b) (l:=l) (nm:=nm) (n:=n) (f:=f) (l6:=l3) (nm6:=nm3) (n6:=n3) (f6:=f3) hb W E (by omega) (fun i hi=>(o i hi).2) K (yc5 a xs) (by omega) k1 (by omega) (by rw[M,List.length_append];omega) e.2;rw[M] at this
  show yjr _ _ _
  simpa [List.append_assoc] using this
theorem yzu:∀ (m:Nat)(t:ya),t.wt<=m->t.ne=true->t.ne2=true:=by
 intro m
 induction m with
 | zero=>intro t h;have:=yei t;omega
 | succ m j=>
  intro t i b;obtain⟨k,l,nm,n,f,kids⟩:=t;rw[jo] at b;rw[zd] at i;rw[yzs];refine⟨fun _ e g=>?_,b.2.1,fun x d=>j x (by have:=xn d;omega) (b.2.2 x d)⟩
  cases kids with
  | nil=>simp at e
  | cons p a=>
   obtain⟨k2,l2,nm2,n2,f2,c⟩:=p;have:=b.2.2 _ List.mem_cons_self;rw[jo] at this;exact this.1 g
theorem ypc {md:Md}{b:Nat}{t:ya}{x:List UInt8}(h:qq false md b t x)(hb:b<=20)(hw:t.wt<=300)(a:t.ne=true):x.length+50<=2000*t.wt/\yh9 md b t x:=
 yzt h hb hw (yzu _ t (Nat.le_refl _) a)
end Go.Proofs.YtfckcdbpiepchaaGreatDoor
