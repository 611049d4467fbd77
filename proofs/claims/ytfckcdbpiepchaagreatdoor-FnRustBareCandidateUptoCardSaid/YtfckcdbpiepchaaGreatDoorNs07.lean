import Derived.Test.YtfckcdbpiepchaaGreatDoorNs06
namespace Go.Proofs.YtfckcdbpiepchaaGreatDoor
open Go.RowKit
set_option maxRecDepth 100000
set_option maxHeartbeats 8000000
set_option linter.all false
def Vw (s:List UInt8)(lim k:Nat):List UInt8:=(s.take lim).drop k
theorem yh8 {s:List UInt8}{lim k:Nat}(h:lim<=k):Vw s lim k=[]:=by
 unfold Vw;exact List.drop_eq_nil_of_le (by rw[List.length_take];omega)
theorem yc8 {s:List UInt8}{lim k:Nat}(a:lim<=s.length)(h:k < lim):Vw s lim k=s.getD k 0::Vw s lim (k+1):=by
 unfold Vw;rw[List.drop_eq_getElem_cons (by rw[List.length_take];omega),List.getElem_take,lgd,lge (by omega)]
 rfl
theorem jw {s:List UInt8}{lim k:Nat}(a:lim<=s.length):(Vw s lim k).length=lim-k:=by
 unfold Vw;rw[List.length_drop,List.length_take];omega
def RS.over (st:RS):Prop:=0 < st.max/\st.max < st.out.length
def ycy (c:Int)(x:List UInt8):Prop:=match x.getLast? with
 | none=>c=32
 | some d=>d=32
structure Wd (a b:RS)(x:List UInt8)(n:Nat):Prop where
 ng:b.nogen=a.nogen
 mx:b.max=a.max
 sk:a.skip=true->b.skip=true
 sk2:b.skip=true->a.skip=true\/b.over
 o1:a.skip=true->b.out=a.out
 l1:a.skip=true->b.last=a.last
 o2:a.skip=false->b.out=a.out++x\/(b.over/\b.out.take (b.max.toNat+1)=(a.out++x).take (b.max.toNat+1))
 la:b.skip=false->¬ b.over->(b.last=32↔ycy a.last x)
 ln:b.out.length<=a.out.length+n
theorem Wd.same {a b:RS}(f:b.nogen=a.nogen)(g:b.max=a.max)(d:b.skip=a.skip)(c:b.out=a.out)(e:b.last=a.last):Wd a b [] 0:=
 ⟨f,g,fun h=>by rw[d];exact h,fun h=>.inl (by rw[<-d];exact h),fun _=>c,fun _=>e,fun _=>.inl (by rw[c];simp),fun _ _=>by rw[e];exact Iff.rfl,by rw[c];simp⟩
theorem Wd.refl (a:RS):Wd a a [] 0:=.same rfl rfl rfl rfl rfl
theorem Wd.mono {a b:RS}{x:List UInt8}{n m:Nat}(h:Wd a b x n)(c:n<=m):Wd a b x m:=⟨h.ng,h.mx,h.sk,h.sk2,h.o1,h.l1,h.o2,h.la,Nat.le_trans h.ln (by omega)⟩
theorem yaz {l x:List UInt8}{m:Int}(a:0 < m)(h:m < l.length):(l++x).take (m.toNat+1)=l.take (m.toNat+1):=by
 rw[List.take_append_of_le_length (by omega)]
theorem yfq {l k:List UInt8}{n:Nat}(h:l.take n=k.take n)(b:n<=l.length):n<=k.length:=by
 have a:=congrArg List.length h;rw[List.length_take,List.length_take] at a;omega
theorem yik (c d:Int)(x y:List UInt8)(h:d=32↔ycy c x):ycy d y↔ycy c (x++y):=by
 unfold ycy;rw[List.getLast?_append]
 cases y.getLast? with
 | none=>simpa [ycy] using h
 | some d=>simp
theorem Wd.over_mono {a b:RS}{x:List UInt8}{n:Nat}(h:Wd a b x n)(g:a.over):b.over:=by
 obtain⟨e,f⟩:=g;refine⟨by rw[h.mx];exact e,?_⟩;rw[h.mx]
 by_cases d:a.skip=true
 ·rw[h.o1 d];exact f
 ·rcases h.o2 (by simpa using d) with c|⟨c,_⟩
  ·rw[c];simp;omega
  ·have:=c.2;rw[h.mx] at this;exact this
theorem Wd.trans {a b c:RS}{x y:List UInt8}{n m:Nat}(h:Wd a b x n)(k:Wd b c y m):Wd a c (x++y) (n+m):=by
 refine⟨k.ng.trans h.ng,k.mx.trans h.mx,fun e=>k.sk (h.sk e),?_,fun e=>by rw[k.o1 (h.sk e),h.o1 e],fun e=>by rw[k.l1 (h.sk e),h.l1 e],?_,?_,by have:=h.ln;have:=k.ln;omega⟩
 ·intro e
  rcases k.sk2 e with f|f
  ·rcases h.sk2 f with d|d
   ·exact .inl d
   ·exact .inr (k.over_mono d)
  ·exact .inr f
 ·intro e
  rcases h.o2 e with f|⟨g,i⟩
  ·by_cases hb:b.skip=true
   ·rcases h.sk2 hb with d|d
    ·rw[e] at d;cases d
    ·refine .inr ⟨k.over_mono d,?_⟩
     rw[k.o1 hb,k.mx,f];obtain⟨o1,o2⟩:=d;rw[f] at o2;rw[<-List.append_assoc,yaz o1 o2]
   ·rcases k.o2 (by simpa using hb) with d|⟨g,i⟩
    ·exact .inl (by rw[d,f,List.append_assoc])
    ·exact .inr ⟨g,by rw[i,f,List.append_assoc]⟩
  ·refine .inr ⟨k.over_mono g,?_⟩
   obtain⟨o1,o2⟩:=g;have o:b.max.toNat+1<=(a.out++x).length:=yfq i (by omega);have p:(a.out++(x++y)).take (b.max.toNat+1)=(a.out++x).take (b.max.toNat+1):=by
    rw[<-List.append_assoc,List.take_append_of_le_length o]
   rw[k.mx,p,<-i]
   by_cases hb:b.skip=true
   ·rw[k.o1 hb]
   ·rcases k.o2 (by simpa using hb) with d|⟨_,d⟩
    ·rw[d,yaz o1 o2]
    ·rw[k.mx] at d;rw[d,yaz o1 o2]
 ·intro e l
  have hb:¬ b.over:=fun h=>l (k.over_mono h);have j:b.skip=false:=by
   cases r:b.skip with
   | false=>rfl
   | true=>rw[k.sk r] at e;cases e
  have q:=h.la j hb;rw[k.la e l];exact yik _ _ _ _ q
theorem Wd.over_add {a b:RS}{x:List UInt8}{n:Nat}(h:Wd a b x n)(c:b.skip=true\/b.over)(y:List UInt8):Wd a b (x++y) n:=by
 refine⟨h.ng,h.mx,h.sk,h.sk2,h.o1,h.l1,?_,?_,h.ln⟩
 ·intro e
  have hb:b.over:=by
   rcases c with c|c
   ·rcases h.sk2 c with d|d
    ·rw[e] at d;cases d
    ·exact d
   ·exact c
  refine .inr ⟨hb,?_⟩
  rcases h.o2 e with d|⟨_,d⟩
  ·rw[<-List.append_assoc,<-d,yaz hb.1 hb.2]
  ·rw[d,<-List.append_assoc,List.take_append_of_le_length (yfq d (by have:=hb.1;have:=hb.2;omega))]
 ·intro e f
  rcases c with c|c
  ·rw[c] at e;cases e
  ·exact absurd c f
theorem Wd.any {a b:RS}{x:List UInt8}{n:Nat}(h:Wd a b x n)(c:a.skip=true\/a.over)(y:List UInt8):Wd a b y n:=by
 have f:b.skip=true\/b.over:=c.imp h.sk h.over_mono;refine⟨h.ng,h.mx,h.sk,h.sk2,h.o1,h.l1,?_,?_,h.ln⟩
 ·intro d
  rcases c with c|c
  ·rw[c] at d;cases d
  ·have hb:=h.over_mono c
   obtain⟨o1,o2⟩:=c;refine .inr ⟨hb,?_⟩;rw[h.mx,yaz o1 o2]
   rcases h.o2 d with e|⟨_,e⟩
   ·rw[e,yaz o1 o2]
   ·rw[h.mx,yaz o1 o2] at e;exact e
 ·intro d g
  rcases f with c|c
  ·rw[c] at d;cases d
  ·exact absurd c g
theorem ya9 (st:RS)(t:List UInt8):Wd st (st.wr t) t t.length:=by
 unfold RS.wr
 split
 ·rename_i h
  exact⟨rfl,rfl,id,.inl,fun _=>rfl,fun _=>rfl,fun a=>(by rw[h] at a;cases a),fun a=>(by rw[h] at a;cases a),by simp⟩
 ·rename_i h
  split
  ·rename_i a
   exact⟨rfl,rfl,fun _=>rfl,fun _=>.inr a,fun _=>rfl,fun _=>rfl,fun _=>.inr ⟨a,(yaz a.1 a.2).symm⟩,fun c=>(by cases c),by simp⟩
  ·split
   ·rename_i c;subst c;exact .refl st
   ·rename_i c
    refine⟨rfl,rfl,fun b=>absurd b h,fun b=>absurd b h,fun b=>absurd b h,fun b=>absurd b h,fun _=>.inl rfl,fun _ _=>?_,by simp⟩;unfold ycy
    cases e:t.getLast? with
    | none=>exact absurd (List.getLast?_eq_none_iff.1 e) c
    | some d=>
     simp only[Option.getD_some]
     constructor
     ·intro h;exact UInt8.toNat_inj.1 (by show d.toNat=32;omega)
     ·intro h;subst h;rfl
theorem yn6 {st:RS}{t:List UInt8}{α:Type}{f:RS->Option (Option α)}(h:st.out.length+t.length<=35184372088832):ye (wS t st) f=f (st.wr t):=by
 unfold wS;rw[if_pos h];rfl
theorem ybl {st:RS}{t:List UInt8}(h:st.out.length+t.length<=35184372088832):wS t st=some (some (st.wr t)):=by
 unfold wS;rw[if_pos h]
theorem yrn {st:RS}{t:List UInt8}{l:Int}(h:st.out.length+t.length<=35184372088832)(g:l≠32)(i:t≠[])(b:t.getLast?≠some 32) :
  ∃ a,yk6 t l st=some (some a)/\Wd st a t t.length/\a.str=st.str/\a.off=st.off/\a.orig=st.orig/\a.life=st.life/\a.skip=st.skip:=by
 unfold yk6
 by_cases c:st.skip=true
 ·rw[if_pos c]
  exact⟨st,rfl,((Wd.refl st).any (.inl c) t).mono (Nat.zero_le _),rfl,rfl,rfl,rfl,rfl⟩
 ·rw[if_neg c,if_pos h]
  refine⟨_,rfl,⟨rfl,rfl,id,.inl,fun e=>absurd e c,fun e=>absurd e c,fun _=>.inl rfl,fun _ _=>?_,by simp⟩,rfl,rfl,rfl,rfl,rfl⟩;unfold ycy
  cases f:t.getLast? with
  | none=>exact absurd (List.getLast?_eq_none_iff.1 f) i
  | some d=>
   rw[f] at b;simp only;exact⟨fun h=>absurd h g,fun h=>absurd (by rw[h]) b⟩
structure At (s:List UInt8)(lim ar b k:Nat)(st:RS):Prop where
 str:st.str=Vw s lim k
 off:st.off=k
 orig:st.orig=s
 life:st.life=(ar:Int)+b
 pl:k<=lim
 ll:lim<=s.length
 b20:b<=20
 ard:ar≠0->st.skip=true
theorem At.wr {s:List UInt8}{lim ar b k:Nat}{st:RS}(h:At s lim ar b k st)(t:List UInt8):At s lim ar b k (st.wr t):=
 ⟨(ymq st t).trans h.str,(yqr st t).trans h.off,(yjs st t).trans h.orig,(yax st t).trans h.life,h.pl,h.ll,h.b20,fun a=>(ya9 st t).sk (h.ard a)⟩
theorem At.go {s:List UInt8}{lim ar b k k':Nat}{st:RS}(h:At s lim ar b k st)(a:k'<=lim):At s lim ar b k' (st.go (Vw s lim k')):=by
 refine⟨rfl,?_,h.orig,h.life,a,h.ll,h.b20,h.ard⟩
 show st.off+((st.str.length:Int)-((Vw s lim k').length:Int))=k'
 rw[h.str,h.off,jw h.ll,jw h.ll];have:=h.pl;omega
theorem ygx (st:RS)(l:List UInt8):Wd st (st.go l) [] 0:=Wd.same rfl rfl rfl rfl rfl
def Ch (s:List UInt8)(lim k:Nat)(c:UInt8):Prop:=k < lim/\s.getD k 0=c
theorem Ch.vw {s:List UInt8}{lim k:Nat}{c:UInt8}(h:Ch s lim k c)(a:lim<=s.length):Vw s lim k=c::Vw s lim (k+1):=by
 rw[yc8 a h.1,h.2]
theorem At.ch {s:List UInt8}{lim ar b k:Nat}{st:RS}{c:UInt8}(h:At s lim ar b k st)(a:Ch s lim k c):st.str=c::Vw s lim (k+1):=h.str.trans (a.vw h.ll)
theorem At.nch {s:List UInt8}{lim ar b k:Nat}{st:RS}{c:UInt8}(h:At s lim ar b k st)(e:¬ Ch s lim k c):st.str.head?≠some c:=by
 rw[h.str]
 rcases Nat.lt_or_ge k lim with a|a
 ·rw[yc8 h.ll a];intro d
  exact e ⟨a,by simpa using d⟩
 ·rw[yh8 a];simp
structure yan (n:List UInt8):Prop where
 ne:n≠[]
 le:n.length<=1000
 la:n.getLast?≠some 32
def zl (sep:List UInt8):List (List UInt8)->List UInt8
 | []=>[]
 | x::l=>x++(l.map fun y=>sep++y).flatten
def zc (n b:Nat):List UInt8:=if n=0 then [39,95] else [39,UInt8.ofNat (97+(b-n))]
def qh (n b:Nat):List UInt8:=
 if n=0 then [] else [102,111,114,60]++zl [44,32] ((List.range n).map fun i=>zc (n-i) (b+n))++[62,32]
def gv (c:UInt8)(n:Nat)(f:Bool):List UInt8:=
 if c=98 then(if n=1 then [116,114,117,101] else [102,97,108,115,101])
 else if c=99 then [39,UInt8.ofNat n,39]
 else if f then 45::Lib.decDigits n else Lib.decDigits n
def kr (n:List UInt8):List UInt8:=if n=[] then [] else [101,120,116,101,114,110,32,34]++n++[34,32]
inductive Md
 | path (v:Bool)
 | type
 | arg
 | const
 | bound
inductive qq (ng:Bool):Md->Nat->ya->List UInt8->Prop
 | crate {v:Bool} {b:Nat} {l:UInt8} {nm:List UInt8} {n:Nat} {f:Bool} : yan nm->qq ng (.path v) b (.mk 1 l nm n f []) nm
 | impl {v:Bool} {b:Nat} {l:UInt8} {nm:List UInt8} {n:Nat} {f:Bool} {p t:ya} {x y:List UInt8} :
   qq ng (.path false) 0 p y->qq ng .type b t x->qq ng (.path v) b (.mk 2 l nm n f [p,t]) ([60]++x++[62])
 | timpl {v:Bool} {b:Nat} {l:UInt8} {nm:List UInt8} {n:Nat} {f:Bool} {p t q:ya} {x y z:List UInt8} :
   qq ng (.path false) 0 p y->qq ng .type b t x->qq ng (.path false) b q z->qq ng (.path v) b (.mk 3 l nm n f [p,t,q]) ([60]++x++[32,97,115,32]++z++[62])
 | tdef {v:Bool} {b:Nat} {l:UInt8} {nm:List UInt8} {n:Nat} {f:Bool} {t q:ya} {x z:List UInt8} :
   qq ng .type b t x->qq ng (.path false) b q z->qq ng (.path v) b (.mk 4 l nm n f [t,q]) ([60]++x++[32,97,115,32]++z++[62])
 | small {v:Bool} {b:Nat} {l:UInt8} {nm:List UInt8} {n:Nat} {f:Bool} {p:ya} {x:List UInt8} :
   97<=l.toNat/\l.toNat<=122->yan nm->qq ng (.path v) b p x->qq ng (.path v) b (.mk 5 l nm n f [p]) (x++[58,58]++nm)
 | special {v:Bool} {b:Nat} {l:UInt8} {nm:List UInt8} {n:Nat} {f:Bool} {p:ya} {x:List UInt8} :
   l=67\/l=83->nm=[]\/yan nm->n<=9223372036854775807->qq ng (.path v) b p x->
   qq ng (.path v) b (.mk 5 l nm n f [p]) (x++[58,58,123]++(if l=67 then [99,108,111,115,117,114,101] else [115,104,105,109])++(if nm=[] then [] else 58::nm)++(35::(Lib.decDigits n++[125])))
 | gen {v:Bool} {b:Nat} {l:UInt8} {nm:List UInt8} {n:Nat} {f:Bool} {p:ya} {x:List UInt8} {a:List ya} {xs:List (List UInt8)} :
   xs.length=a.length->(∀ i,i < a.length->qq ng .arg b (a.getD i .zero) (xs.getD i []))->qq ng (.path v) b p x->
   qq ng (.path v) b (.mk 6 l nm n f (p::a)) (x++(if v then [58,58] else [])++[60]++(if ng then [] else zl [44,32] xs)++[62])
 | path {b:Nat} {t:ya} {x:List UInt8} : qq ng (.path false) b t x->qq ng .type b t x
 | basic {b:Nat} {l:UInt8} {nm:List UInt8} {n:Nat} {f:Bool} {x:List UInt8} : kw l=some x->qq ng .type b (.mk 7 l nm n f []) x
 | array {b:Nat} {l:UInt8} {nm:List UInt8} {n:Nat} {f:Bool} {t c:ya} {x y:List UInt8} :
   qq ng .type b t x->qq ng .const b c y->qq ng .type b (.mk 8 l nm n f [t,c]) ([91]++x++[59,32]++y++[93])
 | slice {b:Nat} {l:UInt8} {nm:List UInt8} {n:Nat} {f:Bool} {t:ya} {x:List UInt8} :
   qq ng .type b t x->qq ng .type b (.mk 9 l nm n f [t]) ([91]++x++[93])
 | tuple {b:Nat} {l:UInt8} {nm:List UInt8} {n:Nat} {f:Bool} {a:List ya} {xs:List (List UInt8)} :
   xs.length=a.length->(∀ i,i < a.length->qq ng .type b (a.getD i .zero) (xs.getD i []))->
   qq ng .type b (.mk 10 l nm n f a) ([40]++zl [44,32] xs++(if a.length=1 then [44] else [])++[41])
 | ref {b k:Nat} {l:UInt8} {nm:List UInt8} {n:Nat} {f:Bool} {t:ya} {x:List UInt8} :
   k=11\/k=12->n<=b->qq ng .type b t x->
   qq ng .type b (.mk k l nm n f [t]) ([38]++(if n=0 then [] else zc n b++[32])++(if k=12 then [109,117,116,32] else [])++x)
 | ptr {b k:Nat} {l:UInt8} {nm:List UInt8} {n:Nat} {f:Bool} {t:ya} {x:List UInt8} :
   k=13\/k=14->qq ng .type b t x->qq ng .type b (.mk k l nm n f [t]) ((if k=13 then [42,99,111,110,115,116,32] else [42,109,117,116,32])++x)
 | fn {b:Nat} {l:UInt8} {nm:List UInt8} {n:Nat} {f:Bool} {a:List ya} {xs:List (List UInt8)} {t:ya} {x:List UInt8} :
   b+n<=20->nm.length<=20->xs.length=a.length->(∀ i,i < a.length->qq ng .type (b+n) (a.getD i .zero) (xs.getD i []))->qq ng .type (b+n) t x->ya8 t=false->
   qq ng .type b (.mk 15 l nm n f (a++[t])) (qh n b++(if f then [117,110,115,97,102,101,32] else [])++kr nm++[102,110,40]++zl [44,32] xs++[41]++(if isU t then [] else [32,45,62,32]++x))
 | dyn {b:Nat} {l:UInt8} {nm:List UInt8} {n m:Nat} {f:Bool} {a:List ya} {xs:List (List UInt8)} {l2:UInt8} {nm2:List UInt8} {f2:Bool} :
   b+n<=20->m<=b->a≠[]->xs.length=a.length->(∀ i,i < a.length->qq ng .bound (b+n) (a.getD i .zero) (xs.getD i []))->
   qq ng .type b (.mk 16 l nm n f (a++[.mk 19 l2 nm2 m f2 []])) ([100,121,110,32]++qh n b++zl [32,43,32] xs++(if m=0 then [] else [32,43,32]++zc m b))
 | life {b:Nat} {l:UInt8} {nm:List UInt8} {n:Nat} {f:Bool} : n<=b->qq ng .arg b (.mk 19 l nm n f []) (zc n b)
 | argC {b:Nat} {t:ya} {x:List UInt8} : qq ng .const b t x->qq ng .arg b t x
 | argT {b:Nat} {t:ya} {x:List UInt8} : qq ng .type b t x->qq ng .arg b t x
 | num {b:Nat} {l:UInt8} {nm:List UInt8} {n:Nat} {f:Bool} : qv l n f=true->qq ng .const b (.mk 20 l nm n f []) (gv l n f)
 | hole {b:Nat} {l:UInt8} {nm:List UInt8} {n:Nat} {f:Bool} : qq ng .const b (.mk 21 l nm n f []) [95]
 | bound0 {b:Nat} {l:UInt8} {nm:List UInt8} {n:Nat} {f:Bool} {p:ya} {x:List UInt8} : qq ng (.path false) b p x->qq ng .bound b (.mk 17 l nm n f [p]) x
 | boundP {b:Nat} {l:UInt8} {nm:List UInt8} {n:Nat} {f:Bool} {p:ya} {x:List UInt8} {a:List ya} {xs:List (List UInt8)} :
   p.kind≠6->a≠[]->xs.length=a.length->
   (∀ i,i < a.length->∃ nm2 n2 f2 l2 t,a.getD i .zero=.mk 18 l2 nm2 n2 f2 [t]/\yan nm2)->
   (∀ i t,i < a.length->(a.getD i .zero).kids=[t]->qq ng .type b t (xs.getD i []))->qq ng (.path false) b p x->
   qq ng .bound b (.mk 17 l nm n f (p::a)) (x++[60]++zl [44,32] ((List.range a.length).map fun i=>(a.getD i .zero).name++[32,61,32]++xs.getD i [])++[62])
 | boundG {b:Nat} {l:UInt8} {nm:List UInt8} {n:Nat} {f:Bool} {l3:UInt8} {nm3:List UInt8} {n3:Nat} {f3:Bool} {q:ya} {x:List UInt8} {a c:List ya} {xs ys:List (List UInt8)} :
   ys.length=c.length->(∀ i,i < c.length->qq ng .arg b (c.getD i .zero) (ys.getD i []))->qq ng (.path false) b q x->
   a≠[]->xs.length=a.length->
   (∀ i,i < a.length->∃ nm2 n2 f2 l2 t,a.getD i .zero=.mk 18 l2 nm2 n2 f2 [t]/\yan nm2)->
   (∀ i t,i < a.length->(a.getD i .zero).kids=[t]->qq ng .type b t (xs.getD i []))->
   qq ng .bound b (.mk 17 l nm n f (.mk 6 l3 nm3 n3 f3 (q::c)::a)) (x++[60]++(if ng then [] else zl [44,32] ys)++(((List.range a.length).map fun i=>[44,32]++((a.getD i .zero).name++[32,61,32]++xs.getD i [])).flatten)++[62])
def ya.wt:ya->Nat
 | .mk _ _ _ _ _ kids=>1+(kids.attach.map fun⟨x,_⟩=>x.wt).sum
theorem zd (k:Nat)(l:UInt8)(nm:List UInt8)(n:Nat)(f:Bool)(kids:List ya):(ya.mk k l nm n f kids).wt=1+(kids.map ya.wt).sum:=by
 rw[ya.wt]
 congr 1
 rw[List.map_attach_eq_pmap];simp[List.pmap_eq_map]
theorem yei (t:ya):1<=t.wt:=by cases t;rw[zd];omega
inductive Sm
 | path
 | type
 | arg
 | const
 | bound
def yic (s:List UInt8)(lim b k n k':Nat):Prop:=
 (n=0/\k'=k)\/(Ch s lim k 76/\b62 (Vw s lim (k+1))=some ((n:Int),Vw s lim k')/\k'<=lim/\n<=b)
def ydd (s:List UInt8)(sg lim ar b k n k':Nat):Prop:=
 (n=0/\k'=k/\¬ Ch s lim k 71)\/(0 < n/\Ch s lim k 71/\b62 (Vw s lim (k+1))=some ((n:Int)-1,Vw s lim k')/\k'<=lim/\k'+ar+b+n+sg < lim)
def ymn (s:List UInt8)(lim k:Nat)(nm:List UInt8)(k':Nat):Prop:=
 (nm=[]/\k'=k/\¬ Ch s lim k 75)\/(nm=[67]/\Ch s lim k 75/\Ch s lim (k+1) 67/\k'=k+2)\/
 (∃ z,Ch s lim k 75/\¬ Ch s lim (k+1) 67/\vn (Vw s lim (k+1))=some (some (z,false,Vw s lim k'))/\k'<=lim/\nm=(z.map fun c=>if c=95 then 45 else c)/\z.length<=20/\nm≠[])
inductive Sp (s:List UInt8)(sg:Nat):Bool->Nat->Sm->Nat->Nat->Nat->Nat->ya->Nat->Prop
 | here {lim:Nat} {md:Sm} {d ar b k:Nat} {t:ya} {k':Nat} : Sp s sg true lim md d ar b k t k'->Sp s sg false lim md d ar b k t k'
 | back {lim:Nat} {md:Sm} {d ar b k:Nat} {t:ya} {k' m m':Nat} :
   md≠.arg->md≠.bound->Ch s lim k 66->b62 (Vw s lim (k+1))=some ((m:Int),Vw s lim k')->k'<=lim->m < k->Sp s sg true k md d ar b m t m'->Sp s sg false lim md d ar b k t k'
 | crate {lim d ar b k:Nat} {l:UInt8} {nm:List UInt8} {n:Nat} {f:Bool} {k':Nat} {z:Int} :
   Ch s lim k 67->idN (Vw s lim (k+1))=some (some (z,nm,Vw s lim k'))->k'<=lim->yan nm->Sp s sg true lim .path (d+1) ar b k (.mk 1 l nm n f []) k'
 | impl {lim d ar b k:Nat} {l:UInt8} {nm:List UInt8} {n:Nat} {f:Bool} {k' k1 k2:Nat} {z:Int} {p t:ya} :
   Ch s lim k 77->ybf (Vw s lim (k+1))=some (z,Vw s lim k1)->k1<=lim->Sp s sg false lim .path d (ar+b) 0 k1 p k2->Sp s sg false lim .type d ar b k2 t k'->
   Sp s sg true lim .path (d+1) ar b k (.mk 2 l nm n f [p,t]) k'
 | timpl {lim d ar b k:Nat} {l:UInt8} {nm:List UInt8} {n:Nat} {f:Bool} {k' k1 k2 k3:Nat} {z:Int} {p t q:ya} :
   Ch s lim k 88->ybf (Vw s lim (k+1))=some (z,Vw s lim k1)->k1<=lim->Sp s sg false lim .path d (ar+b) 0 k1 p k2->Sp s sg false lim .type d ar b k2 t k3->Sp s sg false lim .path d ar b k3 q k'->
   Sp s sg true lim .path (d+1) ar b k (.mk 3 l nm n f [p,t,q]) k'
 | tdef {lim d ar b k:Nat} {l:UInt8} {nm:List UInt8} {n:Nat} {f:Bool} {k' k3:Nat} {t q:ya} :
   Ch s lim k 89->Sp s sg false lim .type d ar b (k+1) t k3->Sp s sg false lim .path d ar b k3 q k'->
   Sp s sg true lim .path (d+1) ar b k (.mk 4 l nm n f [t,q]) k'
 | nested {lim d ar b k:Nat} {l:UInt8} {nm:List UInt8} {n:Nat} {f:Bool} {k' k1:Nat} {p:ya} :
   Ch s lim k 78->Ch s lim (k+1) l->Sp s sg false lim .path d ar b (k+2) p k1->idN (Vw s lim k1)=some (some ((n:Int),nm,Vw s lim k'))->k'<=lim->
   ((97<=l.toNat/\l.toNat<=122/\yan nm)\/((l=67\/l=83)/\(nm=[]\/yan nm)/\n<=9223372036854775807))->
   Sp s sg true lim .path (d+1) ar b k (.mk 5 l nm n f [p]) k'
 | gen {lim d ar b k:Nat} {l:UInt8} {nm:List UInt8} {n:Nat} {f:Bool} {p:ya} {a:List ya} {ks:Nat->Nat} :
   Ch s lim k 73->Sp s sg false lim .path d ar b (k+1) p (ks 0)->(∀ i,i < a.length->Sp s sg true lim .arg d ar b (ks i) (a.getD i .zero) (ks (i+1)))->Ch s lim (ks a.length) 69->
   Sp s sg true lim .path (d+1) ar b k (.mk 6 l nm n f (p::a)) (ks a.length+1)
 | tpath {lim d ar b k:Nat} {t:ya} {k':Nat} : Sp s sg true lim .path (d+1) ar b k t k'->Sp s sg true lim .type (d+1) ar b k t k'
 | basic {lim d ar b k:Nat} {l:UInt8} {nm:List UInt8} {n:Nat} {f:Bool} {x:List UInt8} : Ch s lim k l->kw l=some x->Sp s sg true lim .type (d+1) ar b k (.mk 7 l nm n f []) (k+1)
 | array {lim d ar b k:Nat} {l:UInt8} {nm:List UInt8} {n:Nat} {f:Bool} {t c:ya} {k1 k':Nat} :
   Ch s lim k 65->Sp s sg false lim .type d ar b (k+1) t k1->Sp s sg false lim .const d ar b k1 c k'->Sp s sg true lim .type (d+1) ar b k (.mk 8 l nm n f [t,c]) k'
 | slice {lim d ar b k:Nat} {l:UInt8} {nm:List UInt8} {n:Nat} {f:Bool} {t:ya} {k':Nat} :
   Ch s lim k 83->Sp s sg false lim .type d ar b (k+1) t k'->Sp s sg true lim .type (d+1) ar b k (.mk 9 l nm n f [t]) k'
 | tuple {lim d ar b k:Nat} {l:UInt8} {nm:List UInt8} {n:Nat} {f:Bool} {a:List ya} {ks:Nat->Nat} :
   Ch s lim k 84->ks 0=k+1->(∀ i,i < a.length->Sp s sg false lim .type d ar b (ks i) (a.getD i .zero) (ks (i+1)))->Ch s lim (ks a.length) 69->
   Sp s sg true lim .type (d+1) ar b k (.mk 10 l nm n f a) (ks a.length+1)
 | ref {lim d ar b k:Nat} {l:UInt8} {nm:List UInt8} {n:Nat} {f:Bool} {t:ya} {kk k1 k':Nat} :
   (kk=11/\Ch s lim k 82)\/(kk=12/\Ch s lim k 81)->yic s lim b (k+1) n k1->Sp s sg false lim .type d ar b k1 t k'->Sp s sg true lim .type (d+1) ar b k (.mk kk l nm n f [t]) k'
 | ptr {lim d ar b k:Nat} {l:UInt8} {nm:List UInt8} {n:Nat} {f:Bool} {t:ya} {kk k':Nat} :
   (kk=13/\Ch s lim k 80)\/(kk=14/\Ch s lim k 79)->Sp s sg false lim .type d ar b (k+1) t k'->Sp s sg true lim .type (d+1) ar b k (.mk kk l nm n f [t]) k'
 | fn {lim d ar b k:Nat} {l:UInt8} {nm:List UInt8} {n:Nat} {f:Bool} {a:List ya} {t:ya} {k1 k2:Nat} {ks:Nat->Nat} {k':Nat} :
   Ch s lim k 70->ydd s sg lim ar b (k+1) n k1->(f=true/\Ch s lim k1 85/\k2=k1+1)\/(f=false/\¬ Ch s lim k1 85/\k2=k1)->ymn s lim k2 nm (ks 0)->
   (∀ i,i < a.length->Sp s sg false lim .type d ar (b+n) (ks i) (a.getD i .zero) (ks (i+1)))->Ch s lim (ks a.length) 69->Sp s sg false lim .type d ar (b+n) (ks a.length+1) t k'->
   ya8 t=false->(isU t=true->Ch s lim (ks a.length+1) 117)->b+n<=20->
   Sp s sg true lim .type (d+1) ar b k (.mk 15 l nm n f (a++[t])) k'
 | dyn {lim d ar b k:Nat} {l:UInt8} {nm:List UInt8} {n m:Nat} {f:Bool} {a:List ya} {l2:UInt8} {nm2:List UInt8} {f2:Bool} {ks:Nat->Nat} {k':Nat} :
   Ch s lim k 68->ydd s sg lim ar b (k+1) n (ks 0)->a≠[]->(∀ i,i < a.length->Sp s sg true lim .bound d ar (b+n) (ks i) (a.getD i .zero) (ks (i+1)))->Ch s lim (ks a.length) 69->
   Ch s lim (ks a.length+1) 76->b62 (Vw s lim (ks a.length+2))=some ((m:Int),Vw s lim k')->k'<=lim->m<=b->b+n<=20->
   Sp s sg true lim .type (d+1) ar b k (.mk 16 l nm n f (a++[.mk 19 l2 nm2 m f2 []])) k'
 | life {lim d ar b k:Nat} {l:UInt8} {nm:List UInt8} {n:Nat} {f:Bool} {k':Nat} :
   Ch s lim k 76->b62 (Vw s lim (k+1))=some ((n:Int),Vw s lim k')->k'<=lim->n<=b->Sp s sg true lim .arg d ar b k (.mk 19 l nm n f []) k'
 | argC {lim d ar b k:Nat} {t:ya} {k':Nat} : Ch s lim k 75->Sp s sg false lim .const d ar b (k+1) t k'->Sp s sg true lim .arg d ar b k t k'
 | argT {lim d ar b k:Nat} {t:ya} {k':Nat} : Sp s sg false lim .type d ar b k t k'->Sp s sg true lim .arg d ar b k t k'
 | hole {lim d ar b k:Nat} {l:UInt8} {nm:List UInt8} {n:Nat} {f:Bool} : Ch s lim k 112->Sp s sg true lim .const (d+1) ar b k (.mk 21 l nm n f []) (k+1)
 | num {lim d ar b k:Nat} {l:UInt8} {nm:List UInt8} {n:Nat} {f:Bool} {k1 g k':Nat} :
   Ch s lim k l->(f=true/\Ch s lim (k+1) 110/\k1=k+2)\/(f=false/\¬ Ch s lim (k+1) 110/\k1=k+1)->j5 (Vw s lim k1) 0 0=some (g,n,Vw s lim k')->k'<=lim->1<=g->g<=16->qv l n f=true->
   Sp s sg true lim .const (d+1) ar b k (.mk 20 l nm n f []) k'
 | bound {lim d e ar b k:Nat} {l:UInt8} {nm:List UInt8} {n:Nat} {f:Bool} {p:ya} {a:List ya} {ks ms:Nat->Nat} :
   e<=d->Sp s sg false lim .path d ar b k p (ks 0)->(∀ i,i < a.length->Ch s lim (ks i) 112/\ms i<=lim/\∃ nm2 n2 f2 l2 t u,a.getD i .zero=.mk 18 l2 nm2 n2 f2 [t]/\yan nm2/\vn (Vw s lim (ks i+1))=some (some (nm2,u,Vw s lim (ms i))))->
   (∀ i,i < a.length->Sp s sg false lim .type e ar b (ms i) ((a.getD i .zero).kids.getD 0 .zero) (ks (i+1)))->¬ Ch s lim (ks a.length) 112->
   Sp s sg true lim .bound (d+1) ar b k (.mk 17 l nm n f (p::a)) (ks a.length)
def gr:Sm->UInt8->Bool
 | .path,c=>yb4 c||c == 66
 | .type,c=>yb4 c||(kw c).isSome||c == 65||c == 83||c == 84||c == 82||c == 81||c == 80||c == 79||c == 70||c == 68||c == 66
 | .arg,c=>c != 69
 | .const,c=>c != 69
 | .bound,c=>yb4 c||c == 66
theorem yh4 {s:List UInt8}{lim k k':Nat}{x:Int}(a:lim<=s.length)(b:k'<=lim)(h:b62 (Vw s lim k)=some (x,Vw s lim k')):k < k':=by
 have:=ygt h;rw[jw a,jw a] at this;omega
theorem Wd.eq {a b:RS}{x y:List UInt8}{n:Nat}(h:Wd a b x n)(e:x=y):Wd a b y n:=e▸h
theorem Wd.pre {a b c:RS}{y:List UInt8}{m:Nat}(h:Wd a b [] 0)(k:Wd b c y m):Wd a c y m:=((h.trans k).eq (by simp)).mono (by omega)
theorem Wd.post {a b c:RS}{y:List UInt8}{m n:Nat}(k:Wd a b y m)(h:Wd b c [] n):Wd a c y (m+n):=((k.trans h).eq (by simp)).mono (by omega)
theorem yac (n b:Nat):(zc n b).length=2:=by unfold zc;split<;>rfl
theorem ye7 {s:List UInt8}{lim ar b k n:Nat}{st:RS}(h:At s lim ar b k st)(o:n<=b)(hb:st.out.length+2<=35184372088832) :
  ∃ c,yb3 n st=some (some c)/\Wd st c (zc n b) 2/\At s lim ar b k c:=by
 have l:=h.b20;unfold yb3;rw[if_neg (by omega),yn6 (by simp;omega)];have d:=ya9 st [39];have m:=d.ln;have f:([39]:List UInt8).length=1:=rfl;rw[f] at m
 by_cases j:n=0
 ·subst j
  rw[if_pos (by rfl),ybl (by simp;omega)];exact⟨_,rfl,(d.trans (ya9 _ [95])),(h.wr _).wr _⟩
 ·have a:(st.wr [39]).life=(ar:Int)+b:=(yax st _).trans h.life
  rw[if_neg (by omega),if_neg (by rw[a];omega)]
  by_cases g:ar=0
  ·rw[if_pos (by rw[a];omega),ybl (by simp;omega)]
   refine⟨_,rfl,?_,(h.wr _).wr _⟩;refine(d.trans (ya9 _ _)).eq ?_;unfold zc;rw[if_neg j,a,g];have:((((0:Nat):Int)+(b:Int)-(n:Int)).toNat)=b-n:=by omega
   rw[this];rfl
  ·have i:=d.sk (h.ard g)
   by_cases e:(st.wr [39]).life-(n:Int) < 26
   ·rw[if_pos e,ybl (by simp;omega)]
    exact⟨_,rfl,(d.trans (ya9 _ [UInt8.ofNat (97+((st.wr [39]).life-(n:Int)).toNat)])).any (.inl (h.ard g)) _,(h.wr _).wr _⟩
   ·rw[if_neg e,if_pos i,ybl (by simp;omega)]
    exact⟨_,rfl,(d.trans (ya9 _ [122])).any (.inl (h.ard g)) _,(h.wr _).wr _⟩
theorem At.more {s:List UInt8}{lim ar b k:Nat}{st:RS}(h:At s lim ar b k st)(n:Nat)(a:b+n<=20):At s lim ar (b+n) k { st with life:=st.life+n }:=
 ⟨h.str,h.off,h.orig,by show st.life+n=_;rw[h.life];omega,h.pl,h.ll,a,h.ard⟩
theorem At.life' {s:List UInt8}{lim ar b a k:Nat}{st:RS}(h:At s lim ar b k st)(l:Int)(d:l=(ar:Int)+a)(c:a<=20):At s lim ar a k { st with life:=l }:=
 ⟨h.str,h.off,h.orig,d,h.pl,h.ll,c,h.ard⟩
theorem yfm {s:List UInt8}{lim ar k n b:Nat} : ∀ (j i:Nat) (st:RS),i+j=n->At s lim ar (b+i) k st->b+n<=20->st.out.length+4*j<=35184372088832->
  ∃ e,yaj j (decide (i=0)) st=some (some e)/\Wd st e (if i=0 then zl [44,32] ((List.range n).map fun i=>zc (n-i) (b+n)) else(((List.range n).map fun i=>zc (n-i) (b+n)).drop i |>.map fun y=>[44,32]++y).flatten) (4*j)/\At s lim ar (b+n) k e
 | 0,i,st,hi,h,f,hb=>by
  obtain rfl:i=n:=by omega
  refine⟨st,rfl,(Wd.refl st).eq ?_,h⟩
  split
  ·rename_i c;subst c;rfl
  ·rw[List.drop_eq_nil_of_le (by simp)];rfl
 | j+1,i,st,hi,h,f,hb=>by
  unfold yaj;have x:∃ d,(if decide (i=0)=true then some (some st) else wS [44,32] st)=some (some d)/\Wd st d (if i=0 then [] else [44,32]) 2/\At s lim ar (b+i) k d:=by
   by_cases c:i=0
   ·rw[if_pos (by simpa using c),if_pos c]
    exact⟨st,rfl,(Wd.refl st).mono (by omega),h⟩
   ·rw[if_neg (by simpa using c),if_neg c,ybl (by simp;omega)]
    exact⟨_,rfl,ya9 _ _,h.wr _⟩
  obtain⟨d,w,q,r⟩:=x;rw[w,bindM_ok];have z:=q.ln;have t:At s lim ar (b+i+1) k { d with life:=d.life+1 }:=r.more 1 (by omega);obtain⟨p,m,C,u⟩:=ye7 (n:=1) t (by omega) (by show d.out.length+2<=_;omega);rw[show(((1:Nat):Int))=1 from rfl] at m;rw[m,bindM_ok];have g:Wd d p (zc 1 (b+i+1)) 2:=(Wd.same (a:=d) (b:={ d with life:=d.life+1 }) rfl rfl rfl rfl rfl).pre C;have A:=g.ln;obtain⟨B,o,D,v⟩:=yfm (s:=s) (lim:=lim) (ar:=ar) (k:=k) (n:=n) (b:=b) j (i+1) p (by omega) u f (by omega);rw[show decide (i+1=0)=false by simp] at o;refine⟨B,o,?_,v⟩;refine(((q.trans g).trans D).mono (by omega)).eq ?_;have l:zc 1 (b+i+1)=zc (n-i) (b+n):=by
   unfold zc;rw[if_neg (by omega),if_neg (by omega),show b+i+1-1=b+n-(n-i) by omega]
  rw[if_neg (show ¬ i+1=0 by omega),l];have hd:((List.range n).map fun i=>zc (n-i) (b+n)).drop i=zc (n-i) (b+n)::((List.range n).map fun i=>zc (n-i) (b+n)).drop (i+1):=by
   rw[List.drop_eq_getElem_cons (by simp;omega)];simp
  by_cases c:i=0
  ·rw[if_pos c,if_pos c]
   subst c;rw[List.drop_zero] at hd;rw[hd];unfold zl;simp
  ·rw[if_neg c,if_neg c,hd]
   simp
theorem yhs {s:List UInt8}{sg:Nat}{lim ar b k n k':Nat}{st:RS}(h:At s lim ar b k st)(hB:ydd s sg lim ar b k n k')(e:b+n<=20)(hb:st.out.length+100<=35184372088832) :
  ∃ d,yay st=some (some d)/\Wd st d (qh n b) 90/\At s lim ar (b+n) k' d:=by
 rcases hB with⟨rfl,rfl,f⟩|⟨x,f,v,q,i⟩
 ·refine⟨st,?_,(Wd.refl st).mono (by omega),h⟩
  unfold yay;have:=h.nch f
  cases u:st.str with
  | nil=>rfl
  | cons c r=>rw[u] at this;simp only[List.head?_cons] at this;dsimp only;rw[if_neg (fun h=>this (by rw[h]))]
 ·unfold yay
  rw[h.ch f];dsimp only;rw[if_pos rfl,v];dsimp only;have o:=h.go (k':=k') q;have a:=h.life;rw[if_neg (by omega),if_neg (by rw[jw h.ll,a];omega),yn6 (by show st.out.length+4<=_;omega)];have l:=(ygx st (Vw s lim k')).pre (ya9 (st.go (Vw s lim k')) [102,111,114,60]);have g:=l.ln;rw[show([102,111,114,60]:List UInt8).length=4 from rfl] at g;rw[show((n:Int)-1+1).toNat=n by omega];obtain⟨w,j,m,p⟩:=yfm (s:=s) (lim:=lim) (ar:=ar) (k:=k') (n:=n) (b:=b) n 0 _ (by omega) (o.wr [102,111,114,60]) e (by omega);rw[show decide ((0:Nat)=0)=true from rfl] at j;rw[j,bindM_ok];have t:=m.ln;rw[ybl (by simp;omega)];refine⟨_,rfl,?_,p.wr _⟩;refine(((l.trans m).trans (ya9 w [62,32])).mono (by simp;omega)).eq ?_;unfold qh;rw[if_pos (show(0:Nat)=0 from rfl),if_neg (show ¬ n=0 by omega)]
theorem ywc {s:List UInt8}{lim ar b k k':Nat}{nm:List UInt8}{st:RS}(h:At s lim ar b k st)(hB:ymn s lim k nm k')(hb:st.out.length+100<=35184372088832) :
  ∃ d,yml st=some (some d)/\Wd st d (kr nm) 60/\At s lim ar b k' d:=by
 unfold yml
 rcases hB with⟨rfl,rfl,e⟩|⟨rfl,e,a,rfl⟩|⟨z,e,a,v,t,rfl,x,l⟩
 ·rw[if_neg (h.nch e)]
  exact⟨st,rfl,(Wd.refl st).mono (by omega),h⟩
 ·rw[h.ch e,a.vw h.ll,if_pos (by rfl),List.tail_cons,if_pos (by rfl),List.tail_cons,ybl (by show st.out.length+11<=_;omega)]
  refine⟨_,rfl,?_,(h.go (k':=k+1+1) a.1).wr _⟩;exact(((ygx st (Vw s lim (k+1+1))).pre (ya9 _ _)).mono (by show 11<=60;omega))
 ·have g:k+1<=lim:=e.1
  have m:=h.go (k':=k+1) g;have u:=m.nch a;rw[h.ch e,if_pos (by rfl),List.tail_cons,if_neg (show(Vw s lim (k+1)).head?≠some 67 from u),yn6 (by show st.out.length+8<=_;omega)];have o:=(ygx st (Vw s lim (k+1))).pre (ya9 (st.go (Vw s lim (k+1))) [101,120,116,101,114,110,32,34]);have n:=m.wr [101,120,116,101,114,110,32,34];have i:=o.ln;rw[show([101,120,116,101,114,110,32,34]:List UInt8).length=8 from rfl] at i;generalize (st.go (Vw s lim (k+1))).wr [101,120,116,101,114,110,32,34]=f at *;rw[n.str,v];dsimp only;rw[if_neg (by simp),yn6 (by rw[List.length_map];show f.out.length+_<=_;omega)];have q:=n.go (k':=k') t;have p:=(ygx f (Vw s lim k')).pre (ya9 (f.go (Vw s lim k')) (z.map fun c=>if c=95 then 45 else c));have r:=q.wr (z.map fun c=>if c=95 then 45 else c);have j:=p.ln;rw[List.length_map] at j;generalize (f.go (Vw s lim k')).wr (z.map fun c=>if c=95 then 45 else c)=w at *;rw[ybl (by simp;omega)];refine⟨_,rfl,?_,r.wr _⟩;refine(((o.trans p).trans (ya9 w [34,32])).mono ?_).eq ?_
  ·rw[List.length_map];show 8+z.length+2<=60;omega
  ·unfold kr;rw[if_neg l]
def yiu (sep:List UInt8)(xs:List (List UInt8))(i:Nat):List UInt8:=if i=0 then zl sep xs else((xs.drop i).map fun y=>sep++y).flatten
theorem ypj (sep:List UInt8)(xs:List (List UInt8))(i:Nat)(h:i=xs.length):yiu sep xs i=[]:=by
 unfold yiu
 split
 ·rename_i a;subst a;rw[List.eq_nil_of_length_eq_zero h.symm];rfl
 ·rw[List.drop_eq_nil_of_le (by omega)];rfl
theorem ym0 (sep:List UInt8)(xs:List (List UInt8))(i:Nat)(h:i < xs.length):yiu sep xs i=(if i=0 then [] else sep)++xs.getD i []++yiu sep xs (i+1):=by
 have hd:xs.drop i=xs.getD i []::xs.drop (i+1):=by
  rw[List.drop_eq_getElem_cons h,lgd,lge h];rfl
 unfold yiu;rw[if_neg (show ¬ i+1=0 by omega)]
 by_cases a:i=0
 ·rw[if_pos a,if_pos a]
  subst a;rw[List.drop_zero] at hd
  conv=>lhs;rw[hd]
  unfold zl;simp
 ·rw[if_neg a,if_neg a,hd]
  simp
theorem yks {a:List ya}{i:Nat}(h:i < a.length):((a.drop i).map ya.wt).sum=(a.getD i .zero).wt+((a.drop (i+1)).map ya.wt).sum:=by
 have hd:a.drop i=a.getD i .zero::a.drop (i+1):=by
  rw[List.drop_eq_getElem_cons h,lgd,lge h];rfl
 rw[hd];simp
theorem At.headE {s:List UInt8}{lim ar b k:Nat}{st:RS}(h:At s lim ar b k st)(a:Ch s lim k 69):st.str.head?.getD 69=69:=by rw[h.ch a];rfl
theorem At.headN {s:List UInt8}{lim ar b k:Nat}{st:RS}(h:At s lim ar b k st)(c:k < lim)(a:s.getD k 0≠69):st.str.head?.getD 69≠69:=by
 rw[h.str,yc8 h.ll c];exact a
theorem ydm {s:List UInt8}{lim ar b:Nat}{item:RS->Option (Option RS)}{sep:List UInt8}{ng:Bool}{ks:Nat->Nat}{a:List ya}{xs:List (List UInt8)}
  (q:xs.length=a.length) (e:sep.length<=3)
  (d:∀ i,i < a.length->∀ st,At s lim ar b (ks i) st->st.nogen=ng->st.out.length+2000*(a.getD i .zero).wt<=35184372088832->∃ c,item st=some (some c)/\Wd st c (xs.getD i []) (2000*(a.getD i .zero).wt-100)/\At s lim ar b (ks (i+1)) c)
  (p:∀ i,i < a.length->ks i < lim/\s.getD (ks i) 0≠69/\ks i < ks (i+1)) (l:Ch s lim (ks a.length) 69) :
  ∀ (j i m:Nat) (st:RS),i+j=a.length->lim < ks i+m->At s lim ar b (ks i) st->st.nogen=ng->st.out.length+2000*((a.drop i).map ya.wt).sum+100<=35184372088832->
   ∃ c,xy item sep m i st=some (some (c,a.length))/\Wd st c (yiu sep xs i) (2000*((a.drop i).map ya.wt).sum)/\At s lim ar b (ks a.length) c
 | 0,i,m,st,hi,D,f,n,hb=>by
  obtain rfl:i=a.length:=by omega
  obtain⟨m,rfl⟩:∃ m',m=m'+1:=⟨m-1,by have:=f.pl;have:=l.1;omega⟩;unfold xy;rw[if_pos (f.headE l)];exact⟨st,rfl,((Wd.refl st).eq (ypj _ _ _ q.symm).symm).mono (Nat.zero_le _),f⟩
 | j+1,i,m,st,hi,D,f,n,hb=>by
  obtain⟨y,z,H⟩:=p i (by omega);obtain⟨m,rfl⟩:∃ m',m=m'+1:=⟨m-1,by omega⟩;unfold xy;rw[if_neg (f.headN y z)];rw[yks (show i < a.length by omega)] at hb |-;have hw:=yei (a.getD i .zero);have A:∃ g,(if i=0 then some (some st) else wS sep st)=some (some g)/\Wd st g (if i=0 then [] else sep) 3/\At s lim ar b (ks i) g:=by
   by_cases h:i=0
   ·rw[if_pos h,if_pos h]
    exact⟨st,rfl,(Wd.refl st).mono (by omega),f⟩
   ·rw[if_neg h,if_neg h,ybl (by omega)]
    exact⟨_,rfl,(ya9 _ _).mono e,f.wr _⟩
  obtain⟨g,v,k,r⟩:=A;rw[v,bindM_ok];have B:=k.ln;obtain⟨E,w,o,t⟩:=d i (by omega) g r (k.ng.trans n) (by omega);rw[w,bindM_ok];have C:=o.ln;obtain⟨F,x,G,u⟩:=ydm q e d p l j (i+1) m E (by omega) (by omega) t (o.ng.trans (k.ng.trans n)) (by omega);refine⟨F,x,?_,u⟩;refine(((k.trans o).trans G).mono (by omega)).eq ?_;exact(ym0 sep xs i (by omega)).symm
theorem x8 {P:Nat->List UInt8->Prop} : ∀ n,(∀ i,i < n->∃ x,P i x)->∃ xs:List (List UInt8),xs.length=n/\∀ i,i < n->P i (xs.getD i [])
 | 0,_=>⟨[],rfl,fun i h=>by omega⟩
 | n+1,h=>by
  obtain⟨xs,b,c⟩:=x8 n fun i hi=>h i (by omega);obtain⟨x,d⟩:=h n (by omega);refine⟨xs++[x],by simp[b],fun i hi=>?_⟩
  rcases Nat.lt_or_ge i n with a|a
  ·have:=c i a
   rwa[lgd,List.getElem?_append_left (by omega),<-lgd]
  ·obtain rfl:i=n:=by omega
   rw[lgd,List.getElem?_append_right (by omega),b]
   simpa using d
theorem ylr:∀ (l:List UInt8)(k v g w:Nat)(r:List UInt8),j5 l k v=some (g,w,r)->g<=16->k<=g/\((0 < k->16 ^ (k-1)<=v)->v < 16 ^ k->w < 16 ^ g/\(1 < g->16 ^ (g-1)<=w))
 | [],k,v,g,w,r,h,m=>by
  simp[j5] at h;obtain⟨rfl,rfl,_⟩:=h;exact⟨Nat.le_refl _,fun b f=>⟨f,fun j=>b (by omega)⟩⟩
 | c::l,k,v,g,w,r,h,m=>by
  unfold j5 at h
  split at h
  ·simp at h
   obtain⟨rfl,rfl,_⟩:=h;exact⟨Nat.le_refl _,fun b f=>⟨f,fun j=>b (by omega)⟩⟩
  ·split at h
   ·cases h
   ·split at h
    ·cases h
    ·rename_i y x s
     obtain⟨B,i2⟩:=ylr l (k+1) _ g w r h m;refine⟨by omega,fun b f=>?_⟩;have A:(gu c.toNat).toNat<=15:=by unfold gu;(repeat' split)<;>omega
     have z:16 ^ k*16<=16 ^ 16:=by rw[<-Nat.pow_succ];exact Nat.pow_le_pow_right (by omega) (by omega)
     have t:(16:Nat) ^ 16=18446744073709551616:=by decide
     have u:v*16+(gu c.toNat).toNat < 16 ^ k*16:=by omega
     have n:(v*16+(gu c.toNat).toNat) % 18446744073709551616=v*16+(gu c.toNat).toNat:=Nat.mod_eq_of_lt (by omega);rw[n] at i2
     by_cases o:v=0/\(gu c.toNat).toNat=0
     ·
      have e:l.head? = some 95:=by
       by_cases e:l.head? = some 95
       ·exact e
       ·exact absurd ⟨o.1,by omega,e⟩ s
      have i:k=0:=by
       rcases Nat.eq_zero_or_pos k with a|a
       ·exact a
       ·have:=b a;have:0 < 16 ^ (k-1):=Nat.pow_pos (by omega);omega
      cases l with
      | nil=>cases e
      | cons d l=>
       simp at e;subst e;unfold j5 at h;rw[if_pos rfl] at h;simp at h;obtain⟨rfl,rfl,_⟩:=h;subst i;exact⟨by rw[n];omega,fun j=>by omega⟩
     ·refine i2 (fun _=>?_) (by rw[Nat.pow_succ];exact u)
      show 16 ^ k<=_
      rcases Nat.eq_zero_or_pos k with a|a
      ·subst a;simp;omega
      ·have p:=b a
       obtain⟨q,rfl⟩:∃ q,k=q+1:=⟨k-1,by omega⟩;rw[Nat.pow_succ];simp at p;omega
theorem gy {md:Sm}{c:UInt8}(h:gr md c=true):c≠69:=by
 rintro rfl
 cases md<;>exact absurd h (by decide)
theorem yiz {c:UInt8}(h:gr .path c=true):gr .type c=true:=by
 unfold gr at h |-;simp only[Bool.or_eq_true,beq_iff_eq] at h |-
 rcases h with h|h
 ·exact .inl (.inl (.inl (.inl (.inl (.inl (.inl (.inl (.inl (.inl (.inl h))))))))))
 ·exact .inr h
theorem yls {md:Sm}{c:UInt8}(h:gr md c=true):gr .arg c=true:=by
 have:=gy h
 simpa [gr] using this
theorem yc6 {l:UInt8}{x:List UInt8}(h:kw l=some x):97<=l.toNat/\l.toNat<=122:=by
 unfold kw at h
 split at h<;>first|(cases h;done)|(rename_i a;rw[a];omega)
theorem yh0 {l:UInt8}{x:List UInt8}(h:kw l=some x):1<=x.length/\x.length<=5:=by
 unfold kw at h
 split at h<;>first|(obtain rfl:=Option.some.inj h;exact⟨by decide,by decide⟩)|cases h
theorem yic.le {s:List UInt8}{lim b k n k':Nat}(h:yic s lim b k n k')(d:lim<=s.length):k<=k'/\(k<=lim->k'<=lim):=by
 rcases h with⟨_,rfl⟩|⟨_,c,a,_⟩
 ·exact⟨Nat.le_refl _,id⟩
 ·have:=yh4 d a c;exact⟨by omega,fun _=>a⟩
theorem ydd.le {s:List UInt8}{sg:Nat}{lim ar b k n k':Nat}(h:ydd s sg lim ar b k n k')(d:lim<=s.length):k<=k'/\(k<=lim->k'<=lim):=by
 rcases h with⟨_,rfl,_⟩|⟨_,_,c,a,_⟩
 ·exact⟨Nat.le_refl _,id⟩
 ·have:=yh4 d a c;exact⟨by omega,fun _=>a⟩
theorem ymn.le {s:List UInt8}{lim k k':Nat}{nm:List UInt8}(h:ymn s lim k nm k')(b:lim<=s.length):k<=k'/\(k<=lim->k'<=lim):=by
 rcases h with⟨_,rfl,_⟩|⟨_,_,a,rfl⟩|⟨z,c,_,a,d,_⟩
 ·exact⟨Nat.le_refl _,id⟩
 ·exact⟨by omega,fun _=>by have:=a.1;omega⟩
 ·have:=ydf a
  rw[jw b,jw b] at this;exact⟨by have:=c.1;omega,fun _=>d⟩
theorem ylq:∀ (l:List UInt8)(k v g w:Nat)(r:List UInt8),j5 l k v=some (g,w,r)->r.length<=l.length
 | [],k,v,g,w,r,h=>by simp[j5] at h;obtain⟨_,_,rfl⟩:=h;simp
 | c::l,k,v,g,w,r,h=>by
  unfold j5 at h
  split at h
  ·simp at h;obtain⟨_,_,rfl⟩:=h;simp
  ·split at h
   ·cases h
   ·split at h
    ·cases h
    ·have:=ylq l _ _ g w r h;simp;omega
theorem yli {ks:Nat->Nat}{n:Nat}(h:∀ i,i < n->ks i<=ks (i+1)):∀ i,i<=n->ks 0<=ks i:=by
 intro i
 induction i with
 | zero=>exact fun _=>Nat.le_refl _
 | succ i a=>exact fun hi=>Nat.le_trans (a (by omega)) (h i (by omega))
theorem qm {s:List UInt8}{sg:Nat}{hr:Bool}{lim:Nat}{md:Sm}{d ar b k:Nat}{t:ya}{k':Nat}(h:Sp s sg hr lim md d ar b k t k')(g:lim<=s.length) :
  k < lim/\k < k'/\k'<=lim/\gr md (s.getD k 0)=true:=by
 induction h with
 | here _ r=>exact r g
 | @back _ md _ _ _ _ _ _ _ _ c q o v w A _ r=>
  refine⟨o.1,by have:=yh4 g w v;omega,w,?_⟩;rw[o.2]
  cases md with
  | path=>decide
  | type=>decide
  | arg=>exact absurd rfl c
  | const=>decide
  | bound=>exact absurd rfl q
 | crate c q o v=>exact⟨c.1,by have:=ykb q;rw[jw g,jw g] at this;have:=c.1;omega,o,by rw[c.2];decide⟩
 | impl c q o _ _ m j=>exact⟨c.1,by have:=ydt q;rw[jw g,jw g] at this;have:=m g;have:=j g;omega,(j g).2.2.1,by rw[c.2];decide⟩
 | timpl c q o _ _ _ m j z=>exact⟨c.1,by have:=ydt q;rw[jw g,jw g] at this;have:=m g;have:=j g;have:=z g;omega,(z g).2.2.1,by rw[c.2];decide⟩
 | tdef c _ _ m j=>exact⟨c.1,by have:=m g;have:=j g;omega,(j g).2.2.1,by rw[c.2];decide⟩
 | nested c q _ o v w r=>exact⟨c.1,by have:=ykb o;rw[jw g,jw g] at this;have:=r g;omega,v,by rw[c.2];decide⟩
 | gen c _ _ o m j=>
  refine⟨c.1,?_,o.1,by rw[c.2];decide⟩;have:=yli (fun i hi=>Nat.le_of_lt (j i hi g).2.1) _ (Nat.le_refl _);have:=m g;omega
 | tpath _ r=>exact⟨(r g).1,(r g).2.1,(r g).2.2.1,yiz (r g).2.2.2⟩
 | basic c q=>
  refine⟨c.1,by omega,c.1,?_⟩;rw[c.2];simp only[gr,q,Option.isSome_some];simp
 | array c _ _ m j=>exact⟨c.1,by have:=m g;have:=j g;omega,(j g).2.2.1,by rw[c.2];decide⟩
 | slice c _ r=>exact⟨c.1,by have:=r g;omega,(r g).2.2.1,by rw[c.2];decide⟩
 | tuple c I _ o j=>
  refine⟨c.1,?_,o.1,by rw[c.2];decide⟩;have:=yli (fun i hi=>Nat.le_of_lt (j i hi g).2.1) _ (Nat.le_refl _);omega
 | ref c q _ r=>
  have o:=r g;have v:=(q.le g).1;refine⟨by omega,by omega,o.2.2.1,?_⟩
  rcases c with⟨_,c⟩|⟨_,c⟩<;>rw[c.2]<;>decide
 | ptr c _ r=>
  have o:=r g;refine⟨by omega,by omega,o.2.2.1,?_⟩
  rcases c with⟨_,c⟩|⟨_,c⟩<;>rw[c.2]<;>decide
 | fn c q o v _ w _ A y B m j=>
  have i2:=j g;have x:=(q.le g).1;have G:=(v.le g).1;have D:=yli (fun i hi=>Nat.le_of_lt (m i hi g).2.1) _ (Nat.le_refl _);refine⟨c.1,?_,i2.2.2.1,by rw[c.2];decide⟩
  rcases o with⟨_,_,o⟩|⟨_,_,o⟩<;>omega
 | dyn c q _ _ w A y B C E m=>
  have x:=(q.le g).1;have D:=yli (fun i hi=>Nat.le_of_lt (m i hi g).2.1) _ (Nat.le_refl _);have H:=yh4 g B y;exact⟨c.1,by omega,B,by rw[c.2];decide⟩
 | life c q o v=>exact⟨c.1,by have:=yh4 g o q;omega,o,by rw[c.2];decide⟩
 | argC c _ r=>exact⟨c.1,by have:=r g;omega,(r g).2.2.1,by rw[c.2];decide⟩
 | argT _ r=>exact⟨(r g).1,(r g).2.1,(r g).2.2.1,yls (r g).2.2.2⟩
 | hole c=>exact⟨c.1,by omega,c.1,by rw[c.2];decide⟩
 | num c q o v w A y=>
  have x:=ylq _ _ _ _ _ _ o;rw[jw g,jw g] at x;refine⟨c.1,?_,v,?_⟩
  ·rcases q with⟨_,q,C⟩|⟨_,_,C⟩
   ·have:=q.1;omega
   ·have:=c.1;omega
  ·rw[c.2]
   unfold gr;simp only[bne_iff_ne];rintro rfl;exact absurd y (by unfold qv yx;simp)
 | @bound lim d e ar b k l nm n f p a ks ms _ _ q _ v m j=>
  have F:∀ i,i < a.length->ks i<=ks (i+1):=by
   intro i hi;obtain⟨w,A,nm2,n2,f2,l2,t,u,y,B,C⟩:=q i hi;have x:=ydf C;rw[jw g,jw g] at x;have:=(j i hi g).2.1;have:=w.1;omega
  have D:=yli F _ (Nat.le_refl _);refine⟨(m g).1,by have:=m g;omega,?_,(m g).2.2.2⟩
  rcases Nat.eq_zero_or_pos a.length with h|h
  ·rw[h];exact(m g).2.2.1
  ·have:=(j (a.length-1) (by omega) g).2.2.1
   rwa[show a.length-1+1=a.length by omega] at this
theorem yaa {s:List UInt8}{sg:Nat}{hr:Bool}{lim:Nat}{d ar b k:Nat}{t:ya}{k':Nat}(h:Sp s sg hr lim .type d ar b k t k')(a:lim<=s.length) :
  s.getD k 0≠76/\s.getD k 0≠75:=by
 have:=(qm h a).2.2.2
 constructor<;>intro h<;>rw[h] at this<;>exact absurd this (by decide)
theorem ydh {s:List UInt8}{sg:Nat}{hr:Bool}{lim:Nat}{md:Sm}{d ar b k:Nat}{t:ya}{k':Nat}(h:Sp s sg hr lim md d ar b k t k')(a:hr=true)(c:md=.path):yb4 (s.getD k 0)=true:=by
 cases h with
 | crate h=>rw[h.2];decide
 | impl h=>rw[h.2];decide
 | timpl h=>rw[h.2];decide
 | tdef h=>rw[h.2];decide
 | nested h=>rw[h.2];decide
 | gen h=>rw[h.2];decide
 | _=>first|(cases a;done)|(cases c;done)
theorem sp_u {s:List UInt8}{sg:Nat}{hr:Bool}{lim:Nat}{md:Sm}{d ar b k:Nat}{t:ya}{k':Nat}(h:Sp s sg hr lim md d ar b k t k')(f:md=.type)(c:s.getD k 0=117)(j:hr=true\/s.getD k 0≠66):isU t=true/\k'=k+1:=by
 induction h with
 | here _ e=>exact e f c (.inl rfl)
 | back a g i l m n _ e=>rw[i.2] at c;exact absurd c (by decide)
 | tpath h e=>
  have:=ydh h rfl rfl;rw[c] at this;exact absurd this (by decide)
 | basic a g=>rw[a.2] at c;subst c;exact⟨rfl,rfl⟩
 | array a=>rw[a.2] at c;exact absurd c (by decide)
 | slice a=>rw[a.2] at c;exact absurd c (by decide)
 | tuple a=>rw[a.2] at c;exact absurd c (by decide)
 | ref a=>rcases a with⟨_,a⟩|⟨_,a⟩<;>rw[a.2] at c<;>exact absurd c (by decide)
 | ptr a=>rcases a with⟨_,a⟩|⟨_,a⟩<;>rw[a.2] at c<;>exact absurd c (by decide)
 | fn a=>rw[a.2] at c;exact absurd c (by decide)
 | dyn a=>rw[a.2] at c;exact absurd c (by decide)
 | _=>cases f
def yf1 (ng:Bool)(s:List UInt8)(lim ar b k:Nat)(t:ya)(k':Nat)(kd:Kd)(N0:Nat)(x:List UInt8):Prop:=
 ∀ N st,N0<=N->At s lim ar b k st->st.nogen=ng->st.out.length+2000*t.wt<=35184372088832->
  ∃ st' g,jg N kd st=some (some (st',g))/\Wd st st' x (2000*t.wt-100)/\At s lim ar b k' st'
def ytz (item:Rec->RS->Option (Option RS))(ng:Bool)(s:List UInt8)(lim ar b k:Nat)(t:ya)(k':Nat)(N0:Nat)(x:List UInt8):Prop:=
 ∀ N st,N0<=N->At s lim ar b k st->st.nogen=ng->st.out.length+2000*t.wt<=35184372088832->
  ∃ st',item (jg N) st=some (some st')/\Wd st st' x (2000*t.wt-100)/\At s lim ar b k' st'
def PsgX (ng:Bool)(b:Nat)(t:ya)(y:List UInt8):Prop:=
 (t.kind≠6/\qq ng (.path false) b t y)\/
 (∃ l nm n f q c ys xq,t=.mk 6 l nm n f (q::c)/\ys.length=c.length/\(∀ i,i < c.length->qq ng .arg b (c.getD i .zero) (ys.getD i []))/\qq ng (.path false) b q xq/\y=xq++[60]++(if ng then [] else zl [44,32] ys))
def yy8 (ng:Bool)(s:List UInt8)(lim ar b k:Nat)(t:ya)(k':Nat)(N0:Nat)(y:List UInt8):Prop:=
 ∀ N st,N0<=N->At s lim ar b k st->st.nogen=ng->st.out.length+2000*t.wt<=35184372088832->
  ∃ st' g,jg N .psg st=some (some (st',g))/\((g=decide (t.kind=6)/\Wd st st' y (2000*t.wt-100))\/((st.skip=true\/st.over)/\Wd st st' [] (2000*t.wt-100)))/\At s lim ar b k' st'
def lev (hr:Bool):Nat:=if hr then 0 else 1
def j6 (ng:Bool)(s:List UInt8)(hr:Bool)(lim:Nat)(md:Sm)(d ar b k:Nat)(t:ya)(k':Nat):Prop:=
 match md with
 | .path=>(∀ v,∃ x,qq ng (.path v) b t x/\yf1 ng s lim ar b k t k' (.path v) (3*d+lev hr-1) x)/\∃ y,PsgX ng b t y/\yy8 ng s lim ar b k t k' (3*d+lev hr) y
 | .type=>∃ x,qq ng .type b t x/\yf1 ng s lim ar b k t k' .type (3*d+lev hr) x
 | .const=>∃ x,qq ng .const b t x/\yf1 ng s lim ar b k t k' .const (3*d+lev hr) x
 | .arg=>∃ x,qq ng .arg b t x/\ytz yb7 ng s lim ar b k t k' (3*d+1) x
 | .bound=>∃ x,qq ng .bound b t x/\ytz xd ng s lim ar b k t k' (3*d+2) x
theorem yym {ng:Bool}{s:List UInt8}{lim:Nat}{md:Sm}{d ar b k:Nat}{t:ya}{k':Nat}(h:j6 ng s true lim md d ar b k t k'):j6 ng s false lim md d ar b k t k':=by
 cases md with
 | path=>
  obtain⟨f,y,g,i⟩:=h;refine⟨fun v=>?_,y,g,fun N st e=>i N st (by unfold lev at *;simp at *;omega)⟩;obtain⟨x,a,c⟩:=f v;exact⟨x,a,fun N st e=>c N st (by unfold lev at *;simp at *;omega)⟩
 | type=>obtain⟨x,a,c⟩:=h;exact⟨x,a,fun N st e=>c N st (by unfold lev at *;simp at *;omega)⟩
 | const=>obtain⟨x,a,c⟩:=h;exact⟨x,a,fun N st e=>c N st (by unfold lev at *;simp at *;omega)⟩
 | arg=>exact h
 | bound=>exact h
theorem yoa (rec:Rec)(a:Kd){st:RS}{r:List UInt8}(h:st.str=66::r):yis rec a st=yal rec a st:=by
 cases a with
 | path v=>show xi rec v st=_;unfold xi;rw[h];dsimp only;rw[if_neg (by decide),if_neg (by decide),if_neg (by decide),if_neg (by decide),if_neg (by decide),if_neg (by decide),if_pos rfl]
 | type=>show gw rec st=_;unfold gw;rw[h];dsimp only;rw[if_neg (by decide),if_neg (by decide),if_neg (by decide),if_neg (by decide),if_neg (by decide),if_neg (by decide),if_neg (by decide),if_neg (by decide),if_neg (by decide),if_neg (by decide),if_neg (by decide),if_pos rfl]
 | const=>show ybv rec st=_;unfold ybv;rw[h];dsimp only;rw[if_pos rfl]
 | psg=>show yg1 rec st=_;unfold yg1;rw[h];dsimp only;rw[if_neg (by decide),if_pos rfl]
theorem yfx {s:List UInt8}{lim ar b k:Nat}{st:RS}{c:UInt8}(h:At s lim ar b k st)(a:Ch s lim k c):yb0 c st=some (some (st.go (Vw s lim (k+1)))):=by
 unfold yb0;rw[h.ch a];dsimp only;rw[if_pos rfl]
theorem ymi {s:List UInt8}{lim ar b k m k':Nat}{st:RS}(rec:Rec)(n:Kd)(f:At s lim ar b k st)(l:Ch s lim k 66) (hb:b62 (Vw s lim (k+1))=some ((m:Int),Vw s lim k')) (q:k'<=lim) (w:m < k) :
  ((st.skip=true\/st.over)->∃ a,yal rec n st=some (some (a,false))/\Wd st a [] 0/\At s lim ar b k' a)/\
  (¬ (st.skip=true\/st.over)->∃ j,At s k ar b m j/\j.nogen=st.nogen/\j.out=st.out/\Wd st j [] 0/\
   ∀ z g k2,rec n j=some (some (z,g))->At s k ar b k2 z->(z.nogen=st.nogen)->∃ a,yal rec n st=some (some (a,g))/\Wd z a [] 0/\At s lim ar b k' a):=by
 have p:=f.go (k':=k+1) l.1;have c:=p.go (k':=k') q;have o:=(ygx st (Vw s lim (k+1))).pre (ygx (st.go (Vw s lim (k+1))) (Vw s lim k'));have d:=f.off;unfold yal;rw[yfx f l,bindM_ok];rw[p.str,hb];dsimp only;unfold ykp
 constructor
 ·intro h
  rcases h with h|h
  ·rw[if_pos (show((st.go (Vw s lim (k+1))).go (Vw s lim k')).skip=true from h)]
   exact⟨_,rfl,o,c⟩
  ·split
   ·exact⟨_,rfl,o,c⟩
   ·rw[if_pos (show 0 < ((st.go (Vw s lim (k+1))).go (Vw s lim k')).max/\((st.go (Vw s lim (k+1))).go (Vw s lim k')).max < ((st.go (Vw s lim (k+1))).go (Vw s lim k')).out.length from h)]
    exact⟨_,rfl,o,c⟩
 ·intro h
  have i:¬ ((st.go (Vw s lim (k+1))).go (Vw s lim k')).skip=true:=fun i=>h (.inl i);have r:¬ (0 < ((st.go (Vw s lim (k+1))).go (Vw s lim k')).max/\((st.go (Vw s lim (k+1))).go (Vw s lim k')).max < ((st.go (Vw s lim (k+1))).go (Vw s lim k')).out.length):=fun i=>h (.inr i);rw[if_neg i,if_neg r,if_neg (by rw[d];omega)];refine⟨{ (st.go (Vw s lim (k+1))).go (Vw s lim k') with str:=Vw s k m,off:=(m:Int) },⟨rfl,rfl,c.orig,c.life,by show m<=k;omega,by have:=f.ll;have:=l.1;omega,c.b20,c.ard⟩,rfl,rfl,Wd.same rfl rfl rfl rfl rfl,?_⟩;intro z g k2 v e u;have t:((((st.go (Vw s lim (k+1))).go (Vw s lim k')).orig.take st.off.toNat).drop ((m:Int)).toNat)=Vw s k m:=by
   rw[c.orig,d];rfl
  rw[t,v,bindM_ok];exact⟨_,rfl,Wd.same rfl rfl rfl rfl rfl,⟨c.str,c.off,e.orig,e.life,q,f.ll,f.b20,e.ard⟩⟩
theorem yhd {ng:Bool}{s:List UInt8}{lim ar b k m k' m':Nat}{t:ya}{d:Kd}{i:Nat}{x:List UInt8}(l:Ch s lim k 66) (hb:b62 (Vw s lim (k+1))=some ((m:Int),Vw s lim k')) (v:k'<=lim) (y:m < k)
  (h:yf1 ng s k ar b m t m' d i x):yf1 ng s lim ar b k t k' d (i+1) x:=by
 intro N st D j u c;obtain⟨N,rfl⟩:∃ M,N=M+1:=⟨N-1,by omega⟩;obtain⟨q,r⟩:=ymi (jg N) d j l hb v y;rw[show jg (N+1) d st=yis (jg N) d st from rfl,yoa _ _ (j.ch l)]
 by_cases f:st.skip=true\/st.over
 ·obtain⟨a,e,w,A⟩:=q f
  exact⟨a,false,e,(w.any f x).mono (Nat.zero_le _),A⟩
 ·obtain⟨B,n,n0,o0,w0,hr⟩:=r f
  obtain⟨z,g,e,w,A⟩:=h N B (by omega) n (n0.trans u) (by rw[o0];exact c);obtain⟨a,p,C,o⟩:=hr z g _ e A (w.ng.trans n0);exact⟨a,g,p,(w0.pre w).post C,o⟩
theorem ysx {ng:Bool}{s:List UInt8}{lim ar b k m k' m':Nat}{t:ya}{r:Nat}{y:List UInt8}(v:Ch s lim k 66) (hb:b62 (Vw s lim (k+1))=some ((m:Int),Vw s lim k')) (E:k'<=lim) (F:m < k)
  (h:yy8 ng s k ar b m t m' r y):yy8 ng s lim ar b k t k' (r+1) y:=by
 intro N st H u D i;obtain⟨N,rfl⟩:∃ M,N=M+1:=⟨N-1,by omega⟩;obtain⟨B,C⟩:=ymi (jg N) .psg u v hb E F;rw[show jg (N+1) .psg st=yis (jg N) .psg st from rfl,yoa _ _ (u.ch v)]
 by_cases l:st.skip=true\/st.over
 ·obtain⟨c,e,w,A⟩:=B l
  exact⟨c,false,e,.inr ⟨l,w.mono (Nat.zero_le _)⟩,A⟩
 ·obtain⟨G,x,n0,o0,w0,hr⟩:=C l
  obtain⟨z,g,e,w,A⟩:=h N G (by omega) x (n0.trans D) (by rw[o0];exact i)
  rcases w with⟨p,w⟩|⟨a,w⟩
  ·obtain⟨c,o,q,n⟩:=hr z g _ e A (w.ng.trans n0)
   exact⟨c,g,o,.inl ⟨p,(w0.pre w).post q⟩,n⟩
  ·obtain⟨c,o,q,n⟩:=hr z g _ e A (w.ng.trans n0)
   refine⟨c,g,o,.inr ⟨?_,(w0.pre w).post q⟩,n⟩
   rcases a with a|a
   ·rcases w0.sk2 a with j|j
    ·exact .inl j
    ·exact absurd (.inr (by
      have f:=j.1;have d:=j.2;rw[w0.mx] at f d;rw[o0] at d;exact⟨f,d⟩)) l
   ·exact .inr (by
      have f:=a.1;have d:=a.2;rw[w0.mx] at f d;rw[o0] at d;exact⟨f,d⟩)
theorem yyn {ng:Bool}{s:List UInt8}{lim:Nat}{md:Sm}{d ar b k m m':Nat}{t:ya}{k':Nat}(i:md≠.arg)(j:md≠.bound)(e:Ch s lim k 66) (hb:b62 (Vw s lim (k+1))=some ((m:Int),Vw s lim k')) (f:k'<=lim) (g:m < k)
  (hd:0 < d) (h:j6 ng s true k md d ar b m t m'):j6 ng s false lim md d ar b k t k':=by
 cases md with
 | path=>
  obtain⟨i,y,j,n⟩:=h;refine⟨fun v=>?_,y,j,fun N st l=>ysx e hb f g n N st (by unfold lev at *;simp at *;omega)⟩;obtain⟨x,a,c⟩:=i v;exact⟨x,a,fun N st l=>yhd e hb f g c N st (by unfold lev at *;simp at *;omega)⟩
 | type=>obtain⟨x,a,c⟩:=h;exact⟨x,a,fun N st l=>yhd e hb f g c N st (by unfold lev at *;simp at *;omega)⟩
 | const=>obtain⟨x,a,c⟩:=h;exact⟨x,a,fun N st l=>yhd e hb f g c N st (by unfold lev at *;simp at *;omega)⟩
 | arg=>exact absurd rfl i
 | bound=>exact absurd rfl j
theorem ylt {ng:Bool}{s:List UInt8}{lim:Nat}{d ar b k:Nat}{t:ya}{k':Nat}(p:k < lim)(n:s.getD k 0≠73)(a:s.getD k 0≠66)(j:t.kind≠6)(hd:0 < d)
  (h:∀ v,∃ x,qq ng (.path v) b t x/\yf1 ng s lim ar b k t k' (.path v) (3*d+lev true-1) x):j6 ng s true lim .path d ar b k t k':=by
 refine⟨h,?_⟩;obtain⟨x,l,m⟩:=h false;refine⟨x,.inl ⟨j,l⟩,fun N st q i o hb=>?_⟩;obtain⟨N,rfl⟩:∃ M,N=M+1:=⟨N-1,by omega⟩;obtain⟨f,g,e,w,A⟩:=m N st (by unfold lev at *;simp at *;omega) i o hb;refine⟨f,false,?_,.inl ⟨by simp[j],w⟩,A⟩
 show yg1 (jg N) st=_
 unfold yg1;rw[i.ch (c:=s.getD k 0) ⟨p,rfl⟩];dsimp only;rw[if_neg n,if_neg a,e];rfl
end Go.Proofs.YtfckcdbpiepchaaGreatDoor
