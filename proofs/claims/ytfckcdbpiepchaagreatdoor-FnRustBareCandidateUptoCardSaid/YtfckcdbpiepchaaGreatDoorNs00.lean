import Derived.Below
import Derived.Lib.Hide
import Derived.Laws.Cover4
import Derived.Lib.IndexBytes
import Derived.WalkKit
import Derived.ProofKit
import Derived.WalkLawsBesides
import Derived.WalkSpells
import Derived.IntWalk
import Derived.Deep.QuietTactic
import Derived.BigQuiet
import Derived.Deep.DeepCutAuto
import Derived.Deep.LoopGhost
import Derived.Test.YtfckcdbpiepchaaGreatDoorChecked
import Derived.Laws.CopyOwn
import Derived.Laws.OwnMore
import Derived.Laws.MakeOwn
import Derived.Laws.IdiomStrings
import Derived.Lib.LastIndexByte
import Derived.Lib.Small
namespace Go.Proofs.YtfckcdbpiepchaaGreatDoor
open Go.RowKit
set_option maxRecDepth 100000
set_option maxHeartbeats 8000000
set_option linter.all false
theorem lh{p:Prop}(h:p):Hid p:=Lib.hid h
theorem lgd{α:Type _}(l:List α)(i:Nat)(a:α):l.getD i a=(l[i]?).getD a:=List.getD_eq_getElem?_getD
theorem lge{α:Type _}{l:List α}{i:Nat}(h:i<l.length):l[i]?=some l[i]:=List.getElem?_eq_getElem h
theorem lts{α:Type _}{l:List α}{i:Nat}(h:i<l.length):l.take (i+1)=l.take i ++ [l[i]]:=List.take_succ_eq_append_getElem h
theorem bx (l:List UInt8)(a b:Nat):(⟨l.toArray⟩:ByteArray).extract a b=⟨((l.take b).drop a).toArray⟩:=by
 apply ByteArray.ext
 apply Array.ext'
 rw[Lib.extract_data];simp[List.drop_take]
theorem bi (l:List UInt8)(k:Nat)(h:k < (⟨l.toArray⟩:ByteArray).size):(⟨l.toArray⟩:ByteArray)[k]'h=l[k]'h:=rfl
theorem ba (l m:List UInt8):(⟨l.toArray⟩:ByteArray)++⟨m.toArray⟩=⟨(l++m).toArray⟩:=by
 apply ByteArray.ext;simp
attribute [go_sem] bx bi ba
theorem c95 (c:UInt8):(c.toNat:Int)=95↔c=95:=by
 constructor
 ·intro h
  apply UInt8.toNat_inj.1
  show c.toNat=95
  omega
 ·intro h;rw[h];rfl
def x7 (c:Int):Bool:=decide (48<=c/\c<=57)
def yba (c:Int):Bool:=decide ((65<=c/\c<=90)\/(97<=c/\c<=122))
def yr (c:UInt8):Bool:=x7 c.toNat||decide ((c.toNat:Int)=95)||yba c.toNat
def yfi (c:Int):Int:=if 97<=c/\c<=122 then c-97 else if 48<=c/\c<=57 then c-48+26 else -1
def thr (place bias:Int):Int:=min (max (36*place-bias) 1) 26
theorem yel (p b:Int):1<=thr p b/\thr p b<=26:=by unfold thr;omega
theorem yvv (c:Int):-1<=yfi c/\yfi c<=35:=by unfold yfi;split<;>(try split)<;>omega
def rd:List UInt8->(place weight sum bias:Int)->Option (Int×List UInt8)
 | [],_,_,_,_=>none
 | c::r,place,weight,sum,bias=>
  if yfi c.toNat < 0\/weight > 1099511627776 then none
  else if yfi c.toNat < thr place bias then(if sum+yfi c.toNat*weight<=1099511627776 then some (sum+yfi c.toNat*weight,r) else none)
  else if weight≥59652323 then none
  else rd r (place+1) (weight*(36-thr place bias)) (sum+yfi c.toNat*weight) bias
theorem yg0:∀ (l:List UInt8)(p w s b:Int)(x:Int)(r:List UInt8),rd l p w s b=some (x,r)->r.length < l.length
 | [],_,_,_,_,_,_,h=>by simp[rd] at h
 | c::l,p,w,s,b,x,r,h=>by
  unfold rd at h
  split at h
  ·cases h
  ·split at h
   ·split at h
    ·cases h;simp
    ·cases h
   ·split at h
    ·cases h
    ·have:=yg0 l _ _ _ _ x r h;simp;omega
theorem yrl:∀ (l:List UInt8)(p w s b:Int)(x:Int)(r:List UInt8),0<=w->rd l p w s b=some (x,r)->s<=x/\x<=1099511627776
 | [],_,_,_,_,_,_,_,h=>by simp[rd] at h
 | c::l,p,w,s,b,x,r,hw,h=>by
  unfold rd at h
  split at h
  ·cases h
  ·rename_i a
   have hd:0<=yfi c.toNat*w:=Int.mul_nonneg (by omega) hw
   split at h
   ·split at h
    ·cases h;omega
    ·cases h
   ·split at h
    ·cases h
    ·have d:=yel p b
     have:=yrl l _ _ _ _ x r (Int.mul_nonneg hw (by omega)) h;omega
def qa:Nat-> (d k:Int)->Int×Int
 | 0,d,k=>(d,k)
 | n+1,d,k=>if d > 455 then qa n (d / 35) (k+36) else(d,k)
def ad0 (delta many:Int)(first:Bool):Int:=(if first then delta / 700 else delta / 2)+(if first then delta / 700 else delta / 2) / many
def ybd (delta many:Int)(first:Bool):Int:=
 (qa 16 (ad0 delta many first) 0).2+36*(qa 16 (ad0 delta many first) 0).1 / ((qa 16 (ad0 delta many first) 0).1+38)
theorem yfz:∀ (n:Nat)(d k:Int),0<=d->0<=k->0<=(qa n d k).1/\(qa n d k).1<=d/\k<=(qa n d k).2/\(qa n d k).2<=k+36*n
 | 0,d,k,a,b=>by simp[qa];omega
 | n+1,d,k,a,b=>by
  unfold qa
  split
  ·have h:=yfz n (d / 35) (k+36) (by omega) (by omega)
   refine⟨h.1,by have:=h.2.1;omega,by have:=h.2.2.1;omega,by have:=h.2.2.2;push_cast;omega⟩
  ·exact⟨a,Int.le_refl _,Int.le_refl _,by push_cast;omega⟩
theorem yew:∀ (n:Nat)(d k:Int),0<=d->d<=455*35 ^ n->(qa n d k).1<=455
 | 0,d,k,_,h=>by simp[qa] at *;omega
 | n+1,d,k,a,h=>by
  unfold qa
  split
  ·exact yew n _ _ (by omega) (by rw[Int.pow_succ] at h;omega)
  ·omega
def ya7 (n:Int):Bool:=decide (n < 55296)||(decide (57343 < n)&&decide (n<=1114111))
def ydp (l:List Int)(i:Nat)(x:Int):List Int:=l.take i++x::l.drop i
theorem yas (l:List Int)(i:Nat)(x:Int):(ydp l i x).length=l.length+1:=by unfold ydp;simp;omega
def dec:Nat->List Int->List UInt8->(now place bias:Int)->Option (List Int)
 | _,l,[],_,_,_=>some l
 | 0,_,_::_,_,_,_=>none
 | n+1,l,ds@(_::_),now,place,bias=>
  match rd ds 1 1 place bias with
  | none=>none
  | some (s,r)=>
   if ya7 (now+s / (l.length+1)) then
    dec n (ydp l (s % (l.length+1)).toNat (now+s / (l.length+1))) r (now+s / (l.length+1)) (s % (l.length+1)+1) (ybd (s-place) (l.length+1) (place == 0))
   else none
def vi (b:List UInt8):List Int:=b.map fun c=>(c.toNat:Int)
def yaf (before digits:List UInt8):Option (List Int):=dec digits.length (vi before) digits 128 0 72
def u8 (l:List Int):List UInt8:=(runesBytes l).data.toList
theorem ytd:∀ (n:Nat)(l:List Int)(g:List UInt8)(a p b:Int)(r:List Int),(∀ c∈l,0<=c/\c<=1114111)->128<=a->0<=p->dec n l g a p b=some r->∀ c∈r,0<=c/\c<=1114111
 | n,l,[],a,p,b,r,e,_,_,h=>by
  have:some l=some r:=by rw[<-h];cases n<;>rfl
  cases this;exact e
 | 0,l,_::_,a,p,b,r,e,_,_,h=>by simp[dec] at h
 | n+1,l,x::xs,a,p,b,r,e,m,o,h=>by
  unfold dec at h
  cases f:rd (x::xs) 1 1 p b with
  | none=>rw[f] at h;cases h
  | some k=>
   obtain⟨s,r'⟩:=k;have i:=yrl _ _ _ _ _ _ _ (by omega) f;simp only[f] at h
   split at h
   ·rename_i j
    have t:0<=s / ((l.length:Int)+1):=Int.ediv_nonneg (by omega) (by omega);have q:0<=s % ((l.length:Int)+1):=Int.emod_nonneg _ (by omega);refine ytd n _ _ _ _ _ r (fun c d=>?_) (by omega) (by omega) h;simp only[ydp,List.mem_append,List.mem_cons] at d
    rcases d with d|rfl|d
    ·exact e c (List.mem_of_mem_take d)
    ·simp[ya7] at j;omega
    ·exact e c (List.mem_of_mem_drop d)
   ·cases h
theorem yoz:∀ (n:Nat)(l:List Int)(d:List UInt8)(a p b:Int)(r:List Int),dec n l d a p b=some r->r.length<=l.length+d.length
 | n,l,[],a,p,b,r,h=>by
  have:some l=some r:=by rw[<-h];cases n<;>rfl
  cases this;simp
 | 0,l,_::_,a,p,b,r,h=>by simp[dec] at h
 | n+1,l,x::xs,a,p,b,r,h=>by
  unfold dec at h
  cases c:rd (x::xs) 1 1 p b with
  | none=>rw[c] at h;cases h
  | some f=>
   obtain⟨s,r'⟩:=f;have e:=yg0 _ _ _ _ _ _ _ c;simp only[c] at h
   split at h
   ·have:=yoz n _ _ _ _ _ r h
    rw[yas] at this;simp at *;omega
   ·cases h
theorem ynm {b d:List UInt8}{r:List Int}(h:yaf b d=some r):∀ c∈r,0<=c/\c<=1114111:=
 ytd _ _ _ _ _ _ r (fun c a=>by simp only[vi,List.mem_map] at a;obtain⟨x,_,rfl⟩:=a;have:=x.toNat_lt;omega) (by omega) (by omega) h
theorem yl1 {b d:List UInt8}{r:List Int}(h:yaf b d=some r):r.length<=b.length+d.length:=by
 have:=yoz _ _ _ _ _ _ r h;simpa [vi] using this
def ydc (l:List UInt8):Nat->Int
 | 0=>-1
 | k+1=>if l[k]? = some 95 then(k:Int) else ydc l k
theorem yhm (l:List UInt8):∀ k,-1<=ydc l k/\ydc l k < k
 | 0=>by simp[ydc]
 | k+1=>by
  have:=yhm l k;unfold ydc;split<;>omega
def ybb (l:List UInt8):Int:=ydc l l.length
def ybc (l:List UInt8):List UInt8:=if 0 < ybb l then l.take (ybb l).toNat else []
def yak (l:List UInt8):List UInt8:=l.drop (ybb l+1).toNat
def ydg (l:List UInt8)(ye4:Bool):Option (List UInt8):=
 if l.all yr=false then none
 else if ye4=false then some l
 else if ybb l=0\/yak l=[] then none
 else(yaf (ybc l) (yak l)).map u8
theorem yw3 (l:List Int):(⟨(u8 l).toArray⟩:ByteArray)=runesBytes l:=by simp[u8]
def d62 (c:Int):Int:=if 48<=c/\c<=57 then c-48 else if 97<=c/\c<=122 then c-97+10 else if 65<=c/\c<=90 then c-65+36 else -1
theorem yyu {c:Int}(h:¬ d62 c < 0):(48<=c/\c<=57)\/(97<=c/\c<=122)\/(65<=c/\c<=90):=by
 unfold d62 at h
 split at h
 ·exact .inl ‹_›
 ·split at h
  ·exact .inr (.inl ‹_›)
  ·split at h
   ·exact .inr (.inr ‹_›)
   ·omega
theorem yvx {c:Int}(h:d62 c < 0):(c < 48\/57 < c)/\(c < 97\/122 < c)/\(c < 65\/90 < c):=by
 unfold d62 at h
 split at h
 ·omega
 ·split at h
  ·omega
  ·split at h<;>omega
def p62:List UInt8->Int->Option (Int×List UInt8)
 | [],_=>none
 | c::r,v=>if(c.toNat:Int)=95 then some (wrap64 (v+1),r) else if d62 c.toNat < 0 then none else p62 r (wrap64 (wrap64 (v*62)+d62 c.toNat))
def b62 (l:List UInt8):Option (Int×List UInt8):=if l.head? = some 95 then some (0,l.tail) else p62 l 0
theorem yog:∀ (l:List UInt8)(v x:Int)(r:List UInt8),p62 l v=some (x,r)->r.length < l.length
 | [],_,_,_,h=>by simp[p62] at h
 | c::l,v,x,r,h=>by
  unfold p62 at h
  split at h
  ·cases h;simp
  ·split at h
   ·cases h
   ·have:=yog l _ x r h;simp;omega
theorem ygt {l:List UInt8}{x:Int}{r:List UInt8}(h:b62 l=some (x,r)):r.length < l.length:=by
 unfold b62 at h
 split at h
 ·cases l with
  | nil=>simp at *
  | cons c l=>cases h;simp
 ·exact yog _ _ _ _ h
def ye5:List UInt8->Int->Option (Int×List UInt8)
 | [],v=>some (v,[])
 | c::r,v=>if x7 c.toNat=true then(if v≥214748364-((c.toNat:Int)-48) then none else ye5 r (v*10+((c.toNat:Int)-48))) else some (v,c::r)
def yfv (l:List UInt8):Option (Int×List UInt8):=if l=[] then none else ye5 l 0
theorem yof:∀ (l:List UInt8)(v x:Int)(r:List UInt8),0<=v->v<=2147483648->ye5 l v=some (x,r)->r.length<=l.length/\0<=x/\x<=2147483648
 | [],v,x,r,a,b,h=>by simp[ye5] at h;obtain⟨rfl,rfl⟩:=h;exact⟨Nat.le_refl _,a,b⟩
 | c::l,v,x,r,a,b,h=>by
  unfold ye5 at h
  split at h
  ·rename_i hd
   simp[x7] at hd
   split at h
   ·cases h
   ·have:=yof l _ x r (by omega) (by omega) h;simp;omega
  ·cases h;exact⟨Nat.le_refl _,a,b⟩
theorem ykh {l:List UInt8}{x:Int}{r:List UInt8}(h:yfv l=some (x,r)):r.length<=l.length/\0<=x/\x<=2147483648:=by
 unfold yfv at h
 split at h
 ·cases h
 ·exact yof _ _ _ _ (by omega) (by omega) h
def ybf (l:List UInt8):Option (Int×List UInt8):=if l.head? = some 115 then(b62 l.tail).map (fun x=>(wrap64 (x.1+1),x.2)) else some (0,l)
theorem ydt {l:List UInt8}{x:Int}{r:List UInt8}(h:ybf l=some (x,r)):r.length<=l.length:=by
 unfold ybf at h
 split at h
 ·cases hb:b62 l.tail with
  | none=>rw[hb] at h;cases h
  | some y=>
   rw[hb] at h;simp at h;obtain⟨_,rfl⟩:=h;have:=ygt (x:=y.1) (r:=y.2) (by rw[hb]);simp at this;omega
 ·cases h;exact Nat.le_refl _
def vn (l:List UInt8):Option (Option (List UInt8×Bool×List UInt8)):=
 let u:=decide (l.head? = some 117)
 let l1:=if u then l.tail else l
 match yfv l1 with
 | none=>some none
 | some (v,l2)=>
  let l3:=if l2.head? = some 95 then l2.tail else l2
  if(l3.length:Int) < v then some none
  else if(l3.take v.toNat).all yr=false then some none
  else match ydg (l3.take v.toNat) u with
   | none=>none
   | some t=>some (some (t,u,l3.drop v.toNat))
theorem ymj (d m:Int)(f:Bool)(c:0<=d)(e:d<=1099511627776)(i:1<=m):0<=ybd d m f/\ybd d m f<=700:=by
 have a:0<=ad0 d m f:=by
  unfold ad0;have b:0<=(if f then d / 700 else d / 2):=by split<;>omega
  have:=Int.ediv_nonneg b (show(0:Int)<=m by omega);omega
 have hb:=yfz 16 (ad0 d m f) 0 a (by omega);unfold ybd;generalize qa 16 (ad0 d m f) 0=p at *;obtain⟨q,k⟩:=p;simp only at *;have g:36*q / (q+38)<=36:=by
  apply Int.ediv_le_of_le_mul (by omega);omega
 have h:0<=36*q / (q+38):=Int.ediv_nonneg (by omega) (by omega);omega
theorem yef (c:Int)(w:World) :
  Calls Tryz.prog 159 #[.int .u8 c] w fun e w'=>e=.returned (.bool (x7 c))/\w=w':=by
 by_cases a:48<=c
 all_goals
  go_enter Tryz.func159,Tryz.ntmps159
  go_wp2;go_ret
  exact⟨by simp[x7];omega,rfl⟩
theorem yve {c:Int}(h:(65<=c/\c<=90)\/(97<=c/\c<=122)):yba c=true:=by simp[yba];omega
theorem yvf {c:Int} (h:¬ ((65<=c/\c<=90)\/(97<=c/\c<=122))):yba c=false:=by simp[yba];omega
theorem yha (c:Int)(w:World) :
  Calls Tryz.prog 160 #[.int .u8 c] w fun e w'=>e=.returned (.bool (yba c))/\w=w':=by
 by_cases a:65<=c<;>by_cases b:c<=90<;>by_cases d:97<=c<;>by_cases f:c<=122
 all_goals first
  | (exfalso;omega)
  | (first|rw[yve (by omega)]|rw[yvf (by omega)]
     go_enter Tryz.func160,Tryz.ntmps160
     go_wp2;go_ret
     exact⟨by first|rfl|(simp;omega),rfl⟩)
theorem yip (l:List UInt8)(w:World)(h:l.length<=maxLen) :
  Calls Tryz.prog 135 #[.string ⟨l.toArray⟩] w fun e w'=>e=.returned (.bool (l.all yr))/\w=w':=by
 unfold maxLen at h
 go_enter Tryz.func135,Tryz.ntmps135
 go_wp2
 go_loop [6] (fun i=>∃ k:Nat,k<=l.length/\i=.int .i64 k/\(l.take k).all yr=true) (fun i=>l.length-(intOf i).toNat)
 case atStart=>exact⟨0,by omega,rfl,by simp⟩
 case round=>
  obtain⟨k,m,rfl,b⟩:=hrel
  by_cases a:k < l.length
  ·have d:l.take (k+1)=l.take k++[l[k]]:=by rw[lts a]
   have hd:yr l[k]=(x7 (l[k].toNat:Int)||decide ((l[k].toNat:Int)=95)||yba (l[k].toNat:Int)):=rfl
   have c:=lh (And.intro d hd);clear d hd;have f:=lh b;clear b
   go_wp2_with(first|(go_at_call 159;refine(yef _ _).mono ?_;rintro e w' ⟨rfl,rfl⟩)|(go_at_call 160;refine(yha _ _).mono ?_;rintro e w' ⟨rfl,rfl⟩))
   all_goals first
    | (go_round
       case rel=>exact⟨k+1,by omega,by go_num,by rw[c.out.1,List.all_append,f.out];simp_all[c.out.2]⟩
       case measure=>simp[intOf];omega)
    | (go_ret
       have j:yr l[k]=false:=by rw[c.out.2];simp_all
       have g:l.all yr=false:=by rw[List.all_eq_false];exact⟨_,List.getElem_mem a,by simp[j]⟩
       exact⟨by rw[g];rfl,rfl⟩)
  ·obtain rfl:k=l.length:=by omega
   go_wp2;go_ret
   exact⟨by rw[List.take_length] at b;rw[b];rfl,rfl⟩
theorem ygj (p b:Int)(w:World)(d:0<=p)(f:p<=1099511627776)(g:0<=b)(h:b<=1000000) :
  Calls Tryz.prog 181 #[.int .i64 p,.int .i64 b] w fun e w'=>e=.returned (.int .i64 (thr p b))/\w=w':=by
 have c:thr p b=min (max (36*p-b) 1) 26:=rfl
 by_cases a1:36*p-b < 1
 ·obtain⟨r,hr,a⟩:∃ r,thr p b=r/\r=1:=⟨_,rfl,by omega⟩
  rw[hr];clear c hr;subst a
  go_enter Tryz.func181,Tryz.ntmps181
  go_wp2
  all_goals first|(exfalso;simp_all;done)|(exfalso;simp_all;omega)|(go_ret;exact⟨rfl,rfl⟩)
 ·by_cases a2:36*p-b > 26
  ·obtain⟨r,hr,a⟩:∃ r,thr p b=r/\r=26:=⟨_,rfl,by omega⟩
   rw[hr];clear c hr;subst a
   go_enter Tryz.func181,Tryz.ntmps181
   go_wp2
   all_goals first|(go_ret;exact⟨rfl,rfl⟩)|(exfalso;simp_all;done)|(exfalso;simp_all;omega)
  ·obtain⟨r,hr,a⟩:∃ r,thr p b=r/\r=36*p-b:=⟨_,rfl,by omega⟩
   rw[hr];clear c hr;subst a
   go_enter Tryz.func181,Tryz.ntmps181
   go_wp2
   all_goals first|(go_ret;exact⟨rfl,rfl⟩)|(exfalso;simp_all;done)|(exfalso;simp_all;omega)
theorem yo4 (d m:Int)(f:Bool)(b:0<=d)(c:d<=1099511627776)(h:1<=m):0<=ad0 d m f/\ad0 d m f<=1099511627776:=by
 have a:0<=(if f then d / 700 else d / 2)/\(if f then d / 700 else d / 2)<=549755813888:=by split<;>omega
 unfold ad0;have e:=Int.ediv_nonneg a.1 (show(0:Int)<=m by omega);have g:=Int.ediv_le_self m a.1;omega
theorem yeg (d m:Int)(f:Bool)(w:World)(l:0<=d)(b:d<=1099511627776)(s:1<=m)(t:m<=1099511627776) :
  Calls Tryz.prog 164 #[.int .i64 d,.int .i64 m,.bool f] w fun e w'=>e=.returned (.int .i64 (ybd d m f))/\w=w':=by
 have h:=yo4 d m f l b s;have v:=lh (show ad0 d m f=(if f then d / 700 else d / 2)+(if f then d / 700 else d / 2) / m from rfl);have p:=lh (yew 16 (ad0 d m f) 0 h.1 (by omega));have hb:=lh (yfz 16 (ad0 d m f) 0 h.1 (by omega));have o:=lh (show ybd d m f=(qa 16 (ad0 d m f) 0).2+36*(qa 16 (ad0 d m f) 0).1 / ((qa 16 (ad0 d m f) 0).1+38) from rfl);generalize ad0 d m f=q at *;generalize ybd d m f=r at *;obtain⟨C,D⟩:=h;have z:0<=d / 700 / m:=Int.ediv_nonneg (by omega) (by omega);have A:d / 700 / m<=d / 700:=Int.ediv_le_self m (by omega);have g3:0<=d / 2 / m:=Int.ediv_nonneg (by omega) (by omega);have g4:d / 2 / m<=d / 2:=Int.ediv_le_self m (by omega)
 cases f
 all_goals
  go_enter Tryz.func164,Tryz.ntmps164
  go_wp2
  go_loop [0,7] (fun dv kv=>∃ (n:Nat) (x k:Int),dv=.int .i64 x/\kv=.int .i64 k/\Hid (qa 16 q 0=qa n x k)/\0<=x/\x<=1099511627776/\0<=k/\k+36*n<=576) (fun dv _=>(intOf dv).toNat)
  case atStart=>exact⟨16,_,0,rfl,rfl,by have:=v.out;simp at this;rw[this];rfl,by omega,by omega,by omega,by omega⟩
  case round=>
   obtain⟨n,x,k,rfl,rfl,g,E,F,B,k1⟩:=hrel
   by_cases j:x > 455
   ·obtain⟨c,rfl⟩:∃ c,n=c+1:=⟨n-1,by
     cases n with
     | zero=>have b:=g.out;have i:=p.out;rw[b] at i;simp[qa] at i;omega
     | succ n=>rfl⟩
    have a:Hid (qa 16 q 0=qa c (x / 35) (k+36)):=by have:=g.out;rw[show qa (c+1) x k=qa c (x / 35) (k+36) from by rw[qa,if_pos j]] at this;exact this
    clear g;have y:0<=x / 35:=by omega
    go_wp2
    go_round
    case rel=>exact⟨c,_,_,rfl,rfl,a,y,by omega,by omega,by omega⟩
    case measure=>simp[intOf];omega
   ·have a:Hid (qa 16 q 0=(x,k)):=by
     have:=g.out;rw[this]
     show qa n x k=(x,k)
     cases n with
     | zero=>rfl
     | succ n=>rw[qa,if_neg j]
    clear g;have u:x<=455:=by omega
    have z0:0<=36*x / (x+38):=Int.ediv_nonneg (by omega) (by omega);have G:36*x / (x+38)<=36:=Int.ediv_le_of_le_mul (by omega) (by omega);go_wp2;go_ret;refine⟨?_,rfl⟩;have b:=o.out;rw[a.out] at b;rw[b];rfl
theorem zq {w:World}{B:Nat}{e:TypeId}{v:Value}{n:Nat}{xs:List Value}(h:w.ownsRow B e 1 v n xs) :
  ∃ a c,v=.slice a n c/\xs.length=n/\n<=c/\c<=maxLen:=by
 obtain⟨b,f⟩:=h
 rcases f with⟨rfl,rfl⟩|⟨g,cap,d,rfl,_,_,i,j,_,_⟩
 ·exact⟨none,0,rfl,by simpa using b,by omega,by unfold maxLen;omega⟩
 ·exact⟨_,cap,rfl,by simpa using b,i,j⟩
theorem ybh {w:World}{B:Nat}{e:TypeId}{v:Value}{n:Nat}{xs:List Value}(h:w.ownsRow B e 1 v n xs)(l:0 < n) :
  ∃ g c sp,v=.slice (some ⟨g,0,none⟩) n c/\B<=g/\w.heap[g]? = some (.cells (xs++sp).toArray e (0,0))/\xs.length=n/\n+sp.length=c/\c<=maxLen:=by
 obtain⟨b,d⟩:=h
 rcases d with⟨rfl,rfl⟩|⟨g,cap,a,rfl,hB,f,k,i,m,j⟩
 ·omega
 ·refine⟨g,cap,a.toList.drop n,rfl,hB,?_,by simpa using b,?_,i⟩
  ·have:xs++a.toList.drop n=a.toList:=by rw[<-j];simp
   rw[this];simpa using f
  ·simp;omega
theorem yj1 {w:World}{B:Nat}{e:TypeId}{g n c:Nat}{xs sp:List Value}(hB:B<=g) (b:w.heap[g]? = some (.cells (xs++sp).toArray e (0,0))) (d:xs.length=n)
  (f:n+sp.length=c) (a:c<=maxLen):w.ownsRow B e 1 (.slice (some ⟨g,0,none⟩) n c) n xs:=
 ⟨by omega,.inr ⟨g,c,_,rfl,hB,b,by omega,a,by simp;omega,by simp[<-d]⟩⟩
theorem ja {w:World}{g:Nat}{xs:List Value}{e:TypeId} (a:w.heap[g]? = some (.cells xs.toArray e (0,0))) (j:Nat) (h:j < xs.length) :
  w.cell? ⟨g,j,none⟩=some xs[j]:=by simp[World.cell?,a,h]
theorem zz {w:World}{g:Nat}{xs:Array Value}{e:TypeId} (a:w.heap[g]? = some (.cells xs e (0,0))) (j:Nat):w.frozen? ⟨g,j,none⟩=false:=by
 simp[World.frozen?,a]
theorem zb {w:World}{g:Nat}{xs:List Value}{e:TypeId} (a:w.heap[g]? = some (.cells xs.toArray e (0,0))) (j:Nat) (u:Value) :
  (w.setCell ⟨g,j,none⟩ u).heap[g]? = some (.cells (xs.set j u).toArray e (0,0)):=by
 simp[World.setCell,Array.getElem?_modify,a]
theorem ym (w:World)(o:Obj):(w.alloc o).heap[w.heap.size]? = some o:=by show(w.heap.push o)[w.heap.size]? = _;simp
theorem yaq {w:World}{B:Nat}{e:TypeId}{v:Value}{n:Nat}{xs:List Value}(h:w.ownsRow B e 1 v n xs)(k:Nat)(a:v.ownBlock=some k):B<=k:=by
 obtain⟨_,c⟩:=h
 rcases c with⟨rfl,rfl⟩|⟨g,cap,b,rfl,hB,_⟩
 ·cases a
 ·cases a;exact hB
theorem xe {B:Nat}{w wr a:World}{o:Obj}{e:TypeId}{v:Value}{n:Nat}{xs:List Value}(hb:Below B w wr)(f:B<=wr.heap.size)(d:wr.ownsRow B e 1 v n xs)
  (b:(wr.alloc o).grownBy a v.ownBlock):Below B w a/\B<=a.heap.size:=
 ⟨(hb.alloc f o).grown b (by simp;omega) (fun k c=>yaq d k c),by have:=b.size;simp at this;omega⟩
theorem ypx (l sp:List Value)(z u:Value)(q:Nat)(h:q<=l.length) :
  (splice (l++[z]++sp) (q+1) (l.drop q)).set q u=l.take q++u::l.drop q++sp:=by
 have c:q < (l++[z]++sp).length:=by simp;omega
 have a:(l++[z]++sp).take (q+1)=l.take q++[(l++[z]++sp)[q]]:=by
  rw[lts c];congr 1;rw[List.append_assoc,List.take_append_of_le_length h]
 have b:(l++[z]++sp).drop (q+1+(l.drop q).length)=sp:=by
  apply List.drop_left';simp;omega
 unfold splice;rw[a,b,List.append_assoc,List.set_append_right _ _ (by simp;omega)];simp[Nat.min_eq_left h]
def Sl (w:World)(a:Option Addr)(len cap:Nat):Prop:=
 (a=none/\len=0/\cap=0)\/∃ b off,a=some ⟨b,off,none⟩/\len<=cap/\cap<=maxLen/\b < w.heap.size/\∀ i,i < len->∃ z:UInt8,w.cell? ⟨b,off+i,none⟩=some (.int .u8 (z.toNat:Int))
theorem Sl.below {w w':World}{a:Option Addr}{c cap:Nat}(h:Sl w a c cap)(hb:Below w.heap.size w w'):Sl w' a c cap:=by
 rcases h with h|⟨b,off,e,f,g,d,j⟩
 ·exact .inl h
 ·exact .inr ⟨b,off,e,f,g,Nat.lt_of_lt_of_le d hb.size,fun i hi=>by obtain⟨z,k⟩:=j i hi;exact⟨z,by rw[hb.cell (p:=⟨b,off+i,none⟩) d];exact k⟩⟩
theorem Sl.cap {w:World}{a:Option Addr}{c cap:Nat}(h:Sl w a c cap):c<=cap/\cap<=maxLen:=by
 rcases h with⟨_,d,e⟩|⟨b,off,f,d,e,_⟩
 ·unfold maxLen;omega
 ·exact⟨d,e⟩
theorem Sl.take {w:World}{a:Option Addr}{c cap n:Nat}(h:Sl w a c cap)(k:n<=c):Sl w a n cap:=by
 rcases h with⟨d,f,e⟩|⟨b,off,d,f,e,g,j⟩
 ·exact .inl ⟨d,by omega,e⟩
 ·exact .inr ⟨b,off,d,by omega,e,g,fun i hi=>j i (by omega)⟩
def je (l:List UInt8):List Value:=l.map fun c=>.int .u8 (c.toNat:Int)
theorem yhq (l:List UInt8):(je l).length=l.length:=by simp[je]
theorem ytn (l:List UInt8)(j:Nat)(c:UInt8):(je l).set j (.int .u8 (c.toNat:Int))=je (l.set j c):=by simp[je,List.map_set]
structure RS where
 orig:List UInt8
 str:List UInt8
 off:Int
 out:List UInt8
 skip:Bool
 life:Int
 last:Int
 nogen:Bool
 max:Int
def ju (st:RS)(addr:Option Addr)(sl:Value):List Value:=
 [.string ⟨st.orig.toArray⟩,.string ⟨st.str.toArray⟩,.int .i64 st.off,.pointer addr,sl,.bool st.skip,.int .i64 st.life,.int .u8 st.last,.bool st.nogen,.int .i64 st.max]
def RAt (w:World)(p:Nat)(st:RS):Prop:=
 ∃ addr sl,w.heap[p]? = some (.cells (ju st addr sl).toArray 104 (0,0))/\(addr=none\/addr=some ⟨p,3,none⟩)/\(st.out=[]->sl=.slice none 0 0)/\w.ownsRow (p+1) 5 1 sl st.out.length (je st.out)
def jn (w:World)(p:Nat):Option Nat:=
 match w.heap[p]? with
 | some (.cells c _ _)=>(c[4]?).bind Value.ownBlock
 | _=>none
structure Upd (p:Nat)(w w':World):Prop where
 os:w'.os=w.os
 tape:w'.tape=w.tape
 output:w'.output=w.output
 size:w.heap.size<=w'.heap.size
 block:∀ k,k < w.heap.size->k≠p->jn w p≠some k->w'.heap[k]? = w.heap[k]?
 buf:∀ k,jn w' p=some k->jn w p=some k\/w.heap.size<=k
theorem Upd.refl (p:Nat)(w:World):Upd p w w:=⟨rfl,rfl,rfl,Nat.le_refl _,fun _ _ _ _=>rfl,fun _ h=>.inl h⟩
theorem Upd.trans {p:Nat}{a b c:World}(h:Upd p a b)(k:Upd p b c):Upd p a c:=
 ⟨k.os.trans h.os,k.tape.trans h.tape,k.output.trans h.output,Nat.le_trans h.size k.size,
  fun i e d f=>by
   rw[k.block i (Nat.lt_of_lt_of_le e h.size) d (fun j=>by rcases h.buf i j with g|g;exact f g;omega),h.block i e d f],
  fun i e=>by
   rcases k.buf i e with d|d
   ·exact h.buf i d
   ·exact .inr (Nat.le_trans h.size d)⟩
theorem Upd.drew {p:Nat}{a w:World}(h:Upd p a w):Upd p a w.drew:=⟨h.os,h.tape,h.output,h.size,h.block,h.buf⟩
theorem yfy {p:Nat}{w:World}{i:Nat}{v:Value}(hi:i≠4):jn (w.setCell ⟨p,i,none⟩ v) p=jn w p:=by
 unfold jn World.setCell;simp only[Array.getElem?_modify,if_true]
 cases h:w.heap[p]? with
 | none=>simp
 | some o=>
  cases o<;>simp[hi]
theorem Upd.set {p:Nat}{a w:World}(h:Upd p a w)(i:Nat)(v:Value)(hi:i≠4):Upd p a (w.setCell ⟨p,i,none⟩ v):=
 ⟨h.os,h.tape,h.output,by simp[World.setCell];exact h.size,
  fun k c b d=>by rw[Below.heap_setCell _ _ _ _ b];exact h.block k c b d,fun k e=>h.buf k (by rwa[yfy hi] at e)⟩
theorem RAt.orig {w:World}{p:Nat}{st:RS}(h:RAt w p st):w.cell? ⟨p,0,none⟩=some (.string ⟨st.orig.toArray⟩):=by
 obtain⟨a,b,hb,-,-,-⟩:=h;exact ja hb 0 (by simp[ju])
theorem RAt.str {w:World}{p:Nat}{st:RS}(h:RAt w p st):w.cell? ⟨p,1,none⟩=some (.string ⟨st.str.toArray⟩):=by
 obtain⟨a,b,hb,-,-,-⟩:=h;exact ja hb 1 (by simp[ju])
theorem RAt.off {w:World}{p:Nat}{st:RS}(h:RAt w p st):w.cell? ⟨p,2,none⟩=some (.int .i64 st.off):=by
 obtain⟨a,b,hb,-,-,-⟩:=h;exact ja hb 2 (by simp[ju])
theorem RAt.skip {w:World}{p:Nat}{st:RS}(h:RAt w p st):w.cell? ⟨p,5,none⟩=some (.bool st.skip):=by
 obtain⟨a,b,hb,-,-,-⟩:=h;exact ja hb 5 (by simp[ju])
theorem RAt.life {w:World}{p:Nat}{st:RS}(h:RAt w p st):w.cell? ⟨p,6,none⟩=some (.int .i64 st.life):=by
 obtain⟨a,b,hb,-,-,-⟩:=h;exact ja hb 6 (by simp[ju])
theorem RAt.last {w:World}{p:Nat}{st:RS}(h:RAt w p st):w.cell? ⟨p,7,none⟩=some (.int .u8 st.last):=by
 obtain⟨a,b,hb,-,-,-⟩:=h;exact ja hb 7 (by simp[ju])
theorem RAt.nogen {w:World}{p:Nat}{st:RS}(h:RAt w p st):w.cell? ⟨p,8,none⟩=some (.bool st.nogen):=by
 obtain⟨a,b,hb,-,-,-⟩:=h;exact ja hb 8 (by simp[ju])
theorem RAt.max {w:World}{p:Nat}{st:RS}(h:RAt w p st):w.cell? ⟨p,9,none⟩=some (.int .i64 st.max):=by
 obtain⟨a,b,hb,-,-,-⟩:=h;exact ja hb 9 (by simp[ju])
theorem RAt.free {w:World}{p:Nat}{st:RS}(h:RAt w p st)(i:Nat):w.frozen? ⟨p,i,none⟩=false:=by
 obtain⟨a,b,hb,-,-,-⟩:=h;exact zz hb i
theorem RAt.lt {w:World}{p:Nat}{st:RS}(h:RAt w p st):p < w.heap.size:=by
 obtain⟨a,b,hb,-,-,-⟩:=h;exact(Array.getElem?_eq_some_iff.1 hb).1
theorem RAt.set_str {w:World}{p:Nat}{st:RS}(h:RAt w p st)(x:List UInt8):RAt (w.setCell ⟨p,1,none⟩ (.string ⟨x.toArray⟩)) p { st with str:=x }:=by
 obtain⟨a,e,hb,b,c,d⟩:=h;exact⟨a,e,by rw[zb hb];rfl,b,c,ownsRow_setCell_below d (by simp) _⟩
theorem RAt.set_off {w:World}{p:Nat}{st:RS}(h:RAt w p st)(x:Int):RAt (w.setCell ⟨p,2,none⟩ (.int .i64 x)) p { st with off:=x }:=by
 obtain⟨a,e,hb,b,c,d⟩:=h;exact⟨a,e,by rw[zb hb];rfl,b,c,ownsRow_setCell_below d (by simp) _⟩
theorem RAt.set_skip {w:World}{p:Nat}{st:RS}(h:RAt w p st)(x:Bool):RAt (w.setCell ⟨p,5,none⟩ (.bool x)) p { st with skip:=x }:=by
 obtain⟨a,e,hb,b,c,d⟩:=h;exact⟨a,e,by rw[zb hb];rfl,b,c,ownsRow_setCell_below d (by simp) _⟩
theorem RAt.set_life {w:World}{p:Nat}{st:RS}(h:RAt w p st)(x:Int):RAt (w.setCell ⟨p,6,none⟩ (.int .i64 x)) p { st with life:=x }:=by
 obtain⟨a,e,hb,b,c,d⟩:=h;exact⟨a,e,by rw[zb hb];rfl,b,c,ownsRow_setCell_below d (by simp) _⟩
theorem RAt.set_last {w:World}{p:Nat}{st:RS}(h:RAt w p st)(x:Int):RAt (w.setCell ⟨p,7,none⟩ (.int .u8 x)) p { st with last:=x }:=by
 obtain⟨a,e,hb,b,c,d⟩:=h;exact⟨a,e,by rw[zb hb];rfl,b,c,ownsRow_setCell_below d (by simp) _⟩
theorem RAt.drew {w:World}{p:Nat}{st:RS}(h:RAt w p st):RAt w.drew p st:=h
structure RS.Wf (st:RS):Prop where
 o0:0<=st.off
 o1:st.off+st.str.length<=4294967296
def RS.go (st:RS)(l:List UInt8):RS:={ st with str:=l,off:=st.off+(st.str.length-l.length) }
def Ret (p:Nat)(w:World)(st:RS)(v:Value)(e:Ending)(w':World):Prop:=e=.returned v/\RAt w' p st/\Upd p w w'
def va (p:Nat)(w:World)(e:Ending)(w':World):Prop:=
 ∃ m o st,e=.panicked [{ v:=.iface 96 (.agg #[.string m,.int .i64 o]),recovered:=false }]/\RAt w' p st/\Upd p w w'
theorem RS.go_go (st:RS)(a b:List UInt8):(st.go a).go b=st.go b:=by
 simp only[RS.go,RS.mk.injEq,true_and,and_true];omega
theorem RS.go_self (st:RS):st.go st.str=st:=by simp[RS.go]
theorem ygf {w:World}{p:Nat}{st:RS}{n:Int}(a:RAt w p st)(hw:st.Wf)(d:0<=n)(f:n<=st.str.length) :
  Calls Tryz.prog 123 #[.pointer (some ⟨p,0,none⟩),.int .i64 n] w fun e w'=>Ret p w (st.go (st.str.drop n.toNat)) (.tuple #[]) e w':=by
 have h:=a.str;have g:=a.off;have c:=a.free 1;have f2:=a.free 2;obtain⟨o0,o1⟩:=hw;have b:decide ((st.str.length:Int) < n)=false:=by simp;omega
 go_enter Tryz.func123,Tryz.ntmps123
 go_wp2;go_end0
 refine⟨rfl,?_,((Upd.refl p w).set 1 _ (by omega)).set 2 _ (by omega)⟩;have:=(a.set_str (st.str.drop n.toNat)).set_off (st.off+n);have e:st.go (st.str.drop n.toNat)={ st with str:=st.str.drop n.toNat,off:=st.off+n }:=by
  simp only[RS.go,RS.mk.injEq,true_and,and_true,List.length_drop];omega
 rw[e];exact this
theorem yh {w:World}{p:Nat}{st:RS}{c:UInt8}{r:List UInt8}(b:RAt w p st)(hw:st.Wf)(a:Hid (st.str=c::r)) :
  Calls Tryz.prog 123 #[.pointer (some ⟨p,0,none⟩),.int .i64 1] w fun e w'=>Ret p w (st.go r) (.tuple #[]) e w':=
 (ygf b hw (by omega) (by rw[a.out];simp only[List.length_cons];omega)).mono fun e w' h=>by rw[a.out] at h;exact h
theorem ygw {st:RS}{r:List UInt8}(hw:st.Wf)(h:r.length<=st.str.length):(st.go r).Wf:=by
 obtain⟨o0,o1⟩:=hw;exact⟨by simp only[RS.go];omega,by simp only[RS.go];omega⟩
theorem yu {w:World}{p:Nat}{st:RS}{m:ByteArray}(a:RAt w p st) :
  Calls Tryz.prog 70 #[.pointer (some ⟨p,0,none⟩),.string m] w fun e w'=>va p w e w':=by
 have b:=a.off
 go_enter Tryz.func70,Tryz.ntmps70
 go_wp2;exact⟨rfl,m,st.off,st,rfl,a,Upd.refl p w⟩
def yn2 (p:Nat)(w:World)(st:RS)(x:Option (Int×List UInt8))(e:Ending)(w':World):Prop:=
 match x with
 | some (v,r)=>Ret p w (st.go r) (.int .i64 v) e w'
 | none=>va p w e w'
theorem yhy {w:World}{p:Nat}{st:RS}(f:RAt w p st)(hw:st.Wf) :
  Calls Tryz.prog 149 #[.pointer (some ⟨p,0,none⟩)] w fun e w'=>yn2 p w st (b62 st.str) e w':=by
 generalize s:b62 st.str=X;unfold b62 at s
 by_cases g:st.str.head? = some 95
 ·rw[if_pos g] at s
  subst s;have t:=f.str;obtain⟨c,r,i⟩:∃ c r,st.str=c::r:=by cases h:st.str with
   | nil=>rw[h] at g;cases g
   | cons c r=>exact⟨c,r,rfl⟩
  rw[i] at g;obtain rfl:c=95:=by simpa using g
  rw[i] at t |-;clear g;have u:=lh i;clear i
  go_enter Tryz.func149,Tryz.ntmps149
  go_wp2_with(go_at_call 123;refine(yh f hw u).mono ?_;rintro e B ⟨rfl,a,d⟩)
  go_ret;exact⟨rfl,a,d⟩
 ·rw[if_neg g] at s
  have j:=lh s;clear s;have t:=f.str;have y:Hid (st.str=[]\/∃ c r,st.str=c::r/\((c.toNat:Int) == 95)=false):=by
   cases h:st.str with
   | nil=>exact .inl rfl
   | cons c r=>refine .inr ⟨c,r,rfl,?_⟩;rw[h] at g;simp at g;simp;exact fun q=>g ((c95 c).1 q)
  clear g
  rcases y.out with q|⟨c,r,q,K⟩
  all_goals
   rw[q] at t;have I:=lh q;clear q y
   go_enter Tryz.func149,Tryz.ntmps149
   go_wp2;clear t I
   try clear K
   go_loopg [3] st.str.length (fun gk N wr=>∃ (v:Int) (l:List UInt8),Hid (l.length=gk)/\N=.int .i64 v/\RAt wr p (st.go l)/\(st.go l).Wf/\Hid (p62 l v=X)/\Upd p w wr/\l.length<=st.str.length)
   case atStart=>exact⟨0,st.str,rfl,rfl,by rw[RS.go_self];exact f,by rw[RS.go_self];exact hw,j.out,Upd.refl p w,Nat.le_refl _⟩
   case round=>
    clear f j;obtain⟨v,l,E,rfl,f,k,G,z,F⟩:=hrel
    cases l with
    | nil=>
     have t:wr.cell? ⟨p,1,none⟩=some (.string ⟨#[]⟩):=f.str
     go_wp2_with(go_at_call 70;refine(yu f).mono ?_;rintro e B ⟨m,o,n,rfl,a,d⟩)
     have A:X=none:=by rw[<-G.out];rfl
     refine⟨rfl,?_⟩;rw[A];exact⟨m,o,n,rfl,a,z.trans d⟩
    | cons c r=>
     have t:wr.cell? ⟨p,1,none⟩=some (.string ⟨(c::r).toArray⟩):=f.str;have u:Hid ((st.go (c::r)).str=c::r):=rfl;have L:(c.toNat:Int)<=255:=by have:=c.toNat_lt;omega
     have b:=G.out;clear G;unfold p62 at b
     by_cases c1:(c.toNat:Int)=95
     ·rw[if_pos c1] at b
      have j:=lh b;clear b
      go_wp2_with(go_at_call 123;refine(yh f k u).mono ?_;rintro e B ⟨rfl,a,d⟩)
      go_ret;rw[<-j.out];rw[RS.go_go] at a;exact⟨rfl,a,z.trans d⟩
     ·rw[if_neg c1] at b
      have J:((c.toNat:Int) == 95)=false:=by simp;exact c1
      by_cases c2:d62 c.toNat < 0
      ·rw[if_pos c2] at b
       have j:=lh b;clear b;have x:=lh (yvx c2);clear c2
       go_wp2_with(first|(go_at_call 123;refine(yh f k u).mono ?_;rintro e B ⟨rfl,a,d⟩)|(go_at_call 70;refine(yu a).mono ?_;rintro e O ⟨m,o,n,rfl,C,D⟩))
       all_goals first
        | (exfalso;have:=x.out;omega)
        | (refine⟨rfl,?_⟩
           rw[<-j.out];exact⟨m,o,n,rfl,C,(z.trans d).trans D⟩)
      ·rw[if_neg c2] at b
       have hd:d62 c.toNat=(if 48<=(c.toNat:Int)/\(c.toNat:Int)<=57 then(c.toNat:Int)-48 else if 97<=(c.toNat:Int)/\(c.toNat:Int)<=122 then(c.toNat:Int)-97+10 else if 65<=(c.toNat:Int)/\(c.toNat:Int)<=90 then(c.toNat:Int)-65+36 else -1):=rfl;have x:=lh hd;have j:=lh b;have H:=lh (yyu c2);clear hd b c2
       go_wp2_with(first|(go_at_call 123;refine(yh f k u).mono ?_;rintro e B ⟨rfl,a,d⟩))
       all_goals first
        | (exfalso;have:=H.out;omega)
        | (have M:Hid (p62 r (wrap64 (wrap64 (v*62)+d62 c.toNat))=X):=j
           have A:Hid (r.length+1<=st.str.length):=F;rw[RS.go_go] at a
           go_roundg r.length
           case measure=>have:=E.out;simp at this;omega
           case rel=>exact⟨_,r,rfl,rfl,a,ygw hw (by have:=A.out;omega),by have h:=M.out;first|(rw[x.out,if_pos ⟨by omega,by omega⟩] at h;exact h)|(rw[x.out,if_neg (by omega),if_pos ⟨by omega,by omega⟩] at h;exact h)|(rw[x.out,if_neg (by omega),if_neg (by omega),if_pos ⟨by omega,by omega⟩] at h;exact h),z.trans d,by have:=A.out;omega⟩)
theorem yb5 (c:Int)(w:World) :
  Calls Tryz.prog 99 #[.int .u8 c] w fun e w'=>e=.returned (.bool (x7 c))/\w=w':=by
 by_cases a:48<=c
 all_goals
  go_enter Tryz.func99,Tryz.ntmps99
  go_wp2;go_ret
  exact⟨by simp[x7];omega,rfl⟩
theorem yl2 {w:World}{p:Nat}{st:RS}(b:RAt w p st)(hw:st.Wf) :
  Calls Tryz.prog 170 #[.pointer (some ⟨p,0,none⟩)] w fun e w'=>yn2 p w st (yfv st.str) e w':=by
 generalize k:yfv st.str=X;unfold yfv at k
 by_cases j:st.str=[]
 ·have t:w.cell? ⟨p,1,none⟩=some (.string ⟨#[]⟩):=by have:=b.str;rw[j] at this;exact this
  rw[if_pos j] at k;clear j
  go_enter Tryz.func170,Tryz.ntmps170
  go_wp2_with(go_at_call 70;refine(yu b).mono ?_;rintro e H ⟨m,o,i,rfl,d,g⟩)
  refine⟨rfl,?_⟩;rw[<-k];exact⟨m,o,i,rfl,d,g⟩
 ·rw[if_neg j] at k
  have f:=lh k;clear k;obtain⟨c0,F,B⟩:∃ c r,st.str=c::r:=by cases h:st.str with
   | nil=>exact absurd h j
   | cons c r=>exact⟨c,r,rfl⟩
  have t:w.cell? ⟨p,1,none⟩=some (.string ⟨(c0::F).toArray⟩):=by have:=b.str;rw[B] at this;exact this
  clear j B
  go_enter Tryz.func170,Tryz.ntmps170
  go_wp2;clear t
  go_loopg [3] st.str.length (fun gk G wr=>∃ (v:Int) (l:List UInt8),Hid (l.length=gk)/\G=.int .i64 v/\RAt wr p (st.go l)/\(st.go l).Wf/\Hid (ye5 l v=X)/\Upd p w wr/\l.length<=st.str.length/\0<=v/\v<=2147483648)
  case atStart=>exact⟨0,st.str,rfl,rfl,by rw[RS.go_self];exact b,by rw[RS.go_self];exact hw,f.out,Upd.refl p w,Nat.le_refl _,by omega,by omega⟩
  case round=>
   clear b f;obtain⟨v,l,y,rfl,b,z,A,s,n,v0,v1⟩:=hrel
   cases l with
   | nil=>
    have t:wr.cell? ⟨p,1,none⟩=some (.string ⟨#[]⟩):=b.str;go_wp2;go_ret;rw[<-A.out];exact⟨rfl,b,s⟩
   | cons c r=>
    have t:wr.cell? ⟨p,1,none⟩=some (.string ⟨(c::r).toArray⟩):=b.str;have D:Hid ((st.go (c::r)).str=c::r):=rfl;have E:(c.toNat:Int)<=255:=by have:=c.toNat_lt;omega
    have a:=A.out;clear A;unfold ye5 at a
    by_cases c1:x7 (c.toNat:Int)=true
    ·rw[if_pos c1] at a
     have hd:48<=(c.toNat:Int)/\(c.toNat:Int)<=57:=by simpa [x7] using c1
     obtain⟨d1,d2⟩:=hd;have q:=lh c1;clear c1
     by_cases c2:v≥214748364-((c.toNat:Int)-48)
     ·rw[if_pos c2] at a
      have f:=lh a;clear a
      go_wp2_with(first|(go_at_call 99;refine(yb5 _ _).mono ?_;rintro e w' ⟨rfl,rfl⟩;rw[q.out])|(go_at_call 70;refine(yu b).mono ?_;rintro e I ⟨m,o,i,rfl,u,x⟩))
      refine⟨rfl,?_⟩;rw[<-f.out];exact⟨m,o,i,rfl,u,s.trans x⟩
     ·rw[if_neg c2] at a
      have f:=lh a;clear a;have C:Hid (r.length+1<=st.str.length):=n;clear n
      go_wp2_with(first|(go_at_call 99;refine(yb5 _ _).mono ?_;rintro e w' ⟨rfl,rfl⟩;rw[q.out])|(go_at_call 123;refine(yh b z D).mono ?_;rintro e H ⟨rfl,d,g⟩))
      rw[RS.go_go] at d
      go_roundg r.length
      case measure=>have:=y.out;simp at this;omega
      case rel=>exact⟨_,r,rfl,rfl,d,ygw hw (by have:=C.out;omega),f.out,s.trans g,by have:=C.out;omega,by omega,by omega⟩
    ·rw[if_neg c1] at a
     have f:=lh a;clear a;simp only[Bool.not_eq_true] at c1;have q:=lh c1;clear c1
     go_wp2_with(first|(go_at_call 99;refine(yb5 _ _).mono ?_;rintro e w' ⟨rfl,rfl⟩;rw[q.out]))
     go_ret;rw[<-f.out];exact⟨rfl,b,s⟩
theorem yhk {w:World}{p:Nat}{st:RS}(k:RAt w p st)(hw:st.Wf) :
  Calls Tryz.prog 144 #[.pointer (some ⟨p,0,none⟩)] w fun e w'=>yn2 p w st (ybf st.str) e w':=by
 generalize b:ybf st.str=X;unfold ybf at b;have u:=k.str
 cases f:st.str with
 | nil=>
  rw[f] at b u;have hr:X=some (0,[]):=by rw[<-b];rfl
  clear b;have g:=lh f;clear f
  go_enter Tryz.func144,Tryz.ntmps144
  go_wp2;go_ret
  rw[hr];exact⟨rfl,by rw[<-g.out,RS.go_self];exact k,Upd.refl p w⟩
 | cons c r=>
  rw[f] at b u;have g:=lh f;clear f
  by_cases j:c=115
  ·subst j
   have hr:(b62 r).map (fun x=>(wrap64 (x.1+1),x.2))=X:=by rw[<-b];rfl
   clear b;have t:=lh hr;clear hr;have n:(st.go r).Wf:=ygw hw (by rw[g.out];simp)
   go_enter Tryz.func144,Tryz.ntmps144
   go_wp2_with(first|(go_at_call 123;refine(yh k hw g).mono ?_;rintro e D ⟨rfl,l,h⟩))
   refine(yhy l n).mono ?_;rintro e E i;have z:(st.go r).str=r:=rfl;rw[z] at i
   cases hb:b62 r with
   | none=>
    rw[hb] at i;obtain⟨m,o,s,rfl,a,d⟩:=i;have q:X=none:=by rw[<-t.out,hb];rfl
    go_wp2;refine⟨rfl,?_⟩
    rw[q];exact⟨m,o,s,rfl,a,h.trans d⟩
   | some y=>
    obtain⟨v,A⟩:=y;rw[hb] at i;obtain⟨rfl,a,d⟩:=i;have q:X=some (wrap64 (v+1),A):=by rw[<-t.out,hb];rfl
    clear hb;go_wp2;go_ret;rw[q];rw[RS.go_go] at a;exact⟨rfl,a,h.trans d⟩
  ·have hr:X=some (0,c::r):=by rw[<-b,if_neg (by simp[j])]
   clear b;have C:((c.toNat:Int) != 115)=true:=by simp;intro B;exact j (UInt8.toNat_inj.1 (by show c.toNat=115;omega))
   clear j
   go_enter Tryz.func144,Tryz.ntmps144
   go_wp2;go_ret
   rw[hr];exact⟨rfl,by rw[<-g.out,RS.go_self];exact k,Upd.refl p w⟩
theorem yrr {c:UInt8}(h:yr c=true):c.toNat < 128:=by
 simp[yr,x7,yba] at h;omega
theorem yf8 (l:List UInt8):∀ k,k<=l.length->Lib.lastIdx ⟨l.toArray⟩ 95 k=ydc l k
 | 0,_=>rfl
 | k+1,h=>by
  unfold Lib.lastIdx ydc;rw[yf8 l k (by omega)];have e:(⟨l.toArray⟩:ByteArray).data[k]! = l[k]:=by simp[getElem!_pos,show k < l.length by omega]
  rw[e,lge (by omega)]
  by_cases a:l[k]=95
  ·rw[if_pos ((c95 _).2 a),if_pos (by rw[a])]
  ·rw[if_neg (fun h=>a ((c95 _).1 h)),if_neg (fun h=>a (Option.some.inj h))]
theorem yil (l:List UInt8):Lib.lastIndexByte ⟨l.toArray⟩ 95=ybb l:=yf8 l l.length (Nat.le_refl _)
theorem decode_ascii (l:List UInt8)(i:Nat)(h:i < l.length)(a:l[i].toNat < 128):Utf8.decode ⟨l.toArray⟩ i=(l[i].toNat,1):=by
 have e:(⟨l.toArray⟩:ByteArray).get! (i+0)=l[i]:=by simp[ByteArray.get!,getElem!_pos,h]
 unfold Utf8.decode;simp only[e];rw[if_pos (by omega)]
def vu (l:List Int):List Value:=l.map (Value.int .i32)
theorem yda (l:List UInt8)(b:∀ c∈l,c.toNat < 128):∀ (n i:Nat) (a:Array Value),i+n=l.length->
  Conv.runesFrom ⟨l.toArray⟩ n i a=a++(vu (vi (l.drop i))).toArray
 | 0,i,a,h=>by
  unfold Conv.runesFrom;rw[List.drop_of_length_le (by omega)];simp[vu,vi]
 | n+1,i,a,h=>by
  unfold Conv.runesFrom;have hi:i < l.length:=by omega
  rw[if_pos (show i < (⟨l.toArray⟩:ByteArray).size from hi),decode_ascii l i hi (b _ (List.getElem_mem hi))];simp only;rw[yda l b n (i+1) _ (by omega),List.drop_eq_getElem_cons hi]
  apply Array.ext'
  simp only[Array.toList_append,Array.toList_push,vu,vi,List.map_cons,List.append_assoc,List.cons_append,List.nil_append]
  rfl
theorem yk1 (l:List UInt8)(a:∀ c∈l,c.toNat < 128):Conv.runesFrom ⟨l.toArray⟩ (⟨l.toArray⟩:ByteArray).size 0 #[]=(vu (vi l)).toArray:=by
 rw[show(⟨l.toArray⟩:ByteArray).size=l.length from rfl,yda l a l.length 0 #[] (by omega)];simp
theorem yfp {n:Int}(h:128<=n):Lib.validRune n=ya7 n:=by
 unfold Lib.validRune ya7
 by_cases a:n < 55296<;>by_cases b:57343 < n<;>by_cases c:n<=1114111<;>simp[a,b,c]<;>omega
theorem yno {P:Program}{w:World}{B src dst e:Nat}{v:Value}{l:List Int}(d:P.underlying src=some (.slice e))(b:P.underlying e=some (.int .i32))(hd:P.underlying dst=some .string)
  (f:w.ownsRow B e 1 v l.length (vu l)):(convert src dst v).run P w=.ok (.string (runesBytes l)) w:=by
 by_cases i:0 < l.length
 ·obtain⟨g,c,sp,rfl,_,n,_,_,_⟩:=ybh f i
  have:=run_convert_runes (P:=P) w src dst e ⟨g,0,none⟩ l.length c l (Nat.le_refl _) d b hd (fun j a=>by
   have k:=ja n j (by simp[vu];omega);rw[show((⟨g,0,none⟩:Addr).add j)=⟨g,j,none⟩ from by unfold Addr.add;split<;>simp_all,k]
   rw[List.getElem_append_left (by simp[vu];exact a)];simp[vu,List.getD,lge a])
  rw[List.take_length] at this;exact this
 ·obtain rfl:l=[]:=List.eq_nil_of_length_eq_zero (by omega)
  obtain⟨_,m⟩:=f
  rcases m with⟨rfl,_⟩|⟨g,cap,h,rfl,_⟩
  ·rw[run_convert_runes_nil w src dst e _ _ d b hd];rfl
  ·have:=run_convert_runes (P:=P) w src dst e ⟨g,0,none⟩ 0 cap [] (Nat.le_refl _) d b hd (fun j a=>by simp at a)
   simpa using this
end Go.Proofs.YtfckcdbpiepchaaGreatDoor
