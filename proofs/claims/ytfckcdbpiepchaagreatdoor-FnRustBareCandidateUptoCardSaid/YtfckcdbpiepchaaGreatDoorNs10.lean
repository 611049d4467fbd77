import Derived.Test.YtfckcdbpiepchaaGreatDoorNs09
import Derived.Extends
import Derived.WalkMore
namespace Go.Proofs.YtfckcdbpiepchaaGreatDoor
open Go.RowKit
set_option maxRecDepth 100000
set_option maxHeartbeats 8000000
set_option linter.all false
structure Xt where
 d:Nat
 h:Array Obj
instance:Inhabited Xt:=⟨⟨0,#[]⟩⟩
def ovr (w:World)(x:Xt):World:={ w with heap:=w.heap++x.h,drawn:=x.d }
theorem yd (w:World)(x y:Xt):ovr (ovr w x) y=ovr w ⟨y.d,x.h++y.h⟩:=by
 unfold ovr;simp[Array.append_assoc]
theorem ycj (w:World):ovr w ⟨w.drawn,#[]⟩=w:=by unfold ovr;simp
theorem yb (w:World)(o:Obj):w.alloc o=ovr w ⟨w.drawn,#[o]⟩:=by
 unfold ovr World.alloc;simp
theorem ybj {w w':World}(h:Below w.heap.size w w'):∃ x,w'=ovr w x:=by
 refine⟨⟨w'.drawn,w'.heap.extract w.heap.size w'.heap.size⟩,?_⟩;have e:w'.heap=w.heap++w'.heap.extract w.heap.size w'.heap.size:=by
  have f:=h.size
  apply Array.ext_getElem?
  intro k;rw[Array.getElem?_append]
  split
  ·rename_i b;exact h.block k b
  ·rename_i b
   rw[Array.getElem?_extract]
   rcases Nat.lt_or_ge k w'.heap.size with a|a
   ·rw[if_pos (by omega)];congr 1;omega
   ·rw[if_neg (by omega)];exact Array.getElem?_eq_none a
 have a:=h.os;have c:=h.tape;have d:=h.output
 cases w'
 unfold ovr;simp only at *;rw[<-e,a,c,d]
theorem qp (w:World)(x:Xt):Below w.heap.size w (ovr w x):=
 ⟨rfl,rfl,rfl,by unfold ovr;simp,fun k a=>by unfold ovr;exact Array.getElem?_append_left a⟩
theorem yf {w:World}{a:Addr}{v:Value}(h:w.cell? a=some v)(x:Xt):(ovr w x).cell? a=some v:=by
 have hb:a.block < w.heap.size:=by
  rcases Nat.lt_or_ge a.block w.heap.size with b|b
  ·exact b
  ·unfold World.cell? at h;rw[Array.getElem?_eq_none b] at h;cases h
 unfold World.cell? ovr at *;rw[Array.getElem?_append_left hb];exact h
def Rtn (w:World)(v:Value)(e:Ending)(w':World):Prop:=e=.returned v/\∃ x,w'=ovr w x
theorem Rtn.of {w:World}{v:Value}(x:Xt){w':World}(h:w'=ovr w x):Rtn w v (.returned v) w':=⟨rfl,x,h⟩
def KV (kv:Int)(k:Nat):Prop:=(kv=k/\1<=k/\k<=21)\/(k=0/\¬ (1<=kv/\kv<=21))
inductive yg (w:World):ya->Value->Prop
 | mk {kv:Int} {k:Nat} {l:UInt8} {nm:List UInt8} {n:Nat} {f:Bool} {kids:List ya} {ao:Option Addr} {cap:Nat} {V:Nat->Nat->Value} :
   KV kv k->n < 18446744073709551616->kids.length<=cap->cap<=maxLen->nm.length<=maxLen->(kids≠[]->∃ b o,ao=some ⟨b,o,none⟩)->
   (∀ i b o j,i < kids.length->ao=some ⟨b,o,none⟩->j < 6->w.cell? ⟨b,o+(i*6+j),none⟩=some (V i j))->
   (∀ i,i < kids.length->yg w (kids.getD i .zero) (.agg #[V i 0,V i 1,V i 2,V i 3,V i 4,V i 5]))->
   yg w (.mk k l nm n f kids) (.agg #[.int .i64 kv,.int .u8 l.toNat,.string ⟨nm.toArray⟩,.int .u64 n,.bool f,.slice ao kids.length cap])
theorem yg.ovr {w:World}{t:ya}{v:Value}(h:yg w t v)(x:Xt):yg (ovr w x) t v:=by
 induction h with
 | mk a c d e f g k _ n=>exact .mk a c d e f g (fun i b o j hi l m=>yf (k i b o j hi l m) x) n
theorem yho (w:World)(z:Int)(d:0<=z)(e:z<=255) :
  (convert 22 9 (.slice (some ⟨w.heap.size,0,none⟩) 1 1)).run Tryz.prog (w.alloc (.cells #[.int .u8 z] 5))=.ok (.string ⟨[UInt8.ofNat z.toNat].toArray⟩) (w.alloc (.cells #[.int .u8 z] 5)):=by
 refine run_convert_bytes_back (P:=Tryz.prog) (w.alloc (.cells #[.int .u8 z] 5)) 22 9 5 ⟨w.heap.size,0,none⟩ 1 [UInt8.ofNat z.toNat] Tryz.underlying22 Tryz.underlying5 Tryz.underlying9 (fun j b=>?_);have a:j=0:=by simpa using b
 subst a;have c:((UInt8.ofNat z.toNat).toNat:Int)=z:=by rw[UInt8.toNat_ofNat'];omega
 show(w.alloc (.cells #[.int .u8 z] 5)).cell? ⟨w.heap.size,0,none⟩=_
 rw[Joins.cell_alloc_mark_at w _ _ _ _ _ rfl]
 show some (Value.int .u8 z)=some (Value.int .u8 ((UInt8.ofNat z.toNat).toNat:Int))
 rw[c]
theorem yyy (w:World)(g:Nat)(z:Int)(c:g=w.heap.size)(a:0<=z)(b:z<=255) :
  (convert 22 9 (.slice (some ⟨g,0,none⟩) 1 1)).run Tryz.prog (w.alloc (.cells #[.int .u8 z] 5))=.ok (.string ⟨[UInt8.ofNat z.toNat].toArray⟩) (w.alloc (.cells #[.int .u8 z] 5)):=by
 subst c;exact yho w z a b
theorem yad {w:World}{n b:Nat}(d:n<=b)(hb:b<=20) :
  Calls Tryz.prog 74 #[.int .u64 n,.int .i64 b] w fun e w'=>Rtn w (.string ⟨(zc n b).toArray⟩) e w':=by
 by_cases a:n=0
 ·subst a
  go_enter Tryz.func74,Tryz.ntmps74
  go_wp2;go_ret
  exact .of ⟨w.drawn,#[]⟩ (ycj _).symm
 ·have c:((n:Int) == 0)=false:=by simp;omega
  have f:=yho w (97+(b:Int)-(n:Int)) (by omega) (by omega)
  go_enter Tryz.func74,Tryz.ntmps74
  go_wp2;go_ret
  refine⟨?_,_,yb _ _⟩
  show Ending.returned (.string ⟨#[39,UInt8.ofNat (97+b-n)]⟩)=_
  unfold zc;rw[if_neg a,show 97+(b-n)=97+b-n by omega]
theorem ych (n:Nat):∀ (w:World),n < 18446744073709551616->Calls Tryz.prog 80 #[.int .u64 n] w fun e w'=>Rtn w (.string ⟨(Lib.decDigits n).toArray⟩) e w':=by
 induction n using Nat.strongRecOn with
 | _ n a=>
  intro w c
  by_cases h:n < 10
  ·have d:=yho w (48+(n:Int)) (by omega) (by omega)
   rw[Lib.decDigits,dif_pos h]
   go_enter Tryz.func80,Tryz.ntmps80
   go_wp2;go_ret
   exact⟨rfl,_,yb _ _⟩
  ·have b:=a (n / 10) (by omega)
   have i2:=a (n % 10) (by omega);have l1:=yag (n / 10) (by omega);have l2:=yag (n % 10) (by omega)
   go_enter Tryz.func80,Tryz.ntmps80
   go_wp2_with fail
   rw[show((n:Int) / 10)=((n / 10:Nat):Int) by omega];refine(b _ (by omega)).mono ?_;rintro e f ⟨rfl,x,rfl⟩
   go_wp2_with fail
   rw[show((n:Int) % 10)=((n % 10:Nat):Int) by omega];refine(i2 _ (by omega)).mono ?_;rintro e g ⟨rfl,y,rfl⟩;go_wp2;go_ret;refine⟨?_,_,yd _ _ _⟩
   show Ending.returned (.string ⟨(Lib.decDigits (n / 10)++Lib.decDigits (n % 10)).toArray⟩)=_
   rw[Lib.decDigits_one (show n % 10 < 10 by omega)]
   conv=>rhs;rw[Lib.decDigits,dif_neg h]
def yeb (t:ya):List UInt8:=if t.kind=21 then [95] else gv t.letter t.num t.flag
theorem u8i {l:UInt8}{c:Nat}(h:l.toNat≠c):((l.toNat:Int) == (c:Int))=false:=by simp;omega
theorem ydk {w:World}{t:ya}{v:Value}(h:yg w t v)(D:t.kind=20\/t.kind=21)(o:t.kind=20->t.letter=99->t.num<=255):Calls Tryz.prog 76 #[v] w fun e w'=>Rtn w (.string ⟨(yeb t).toArray⟩) e w':=by
 cases h with
 | @mk kv k l nm n f kids ao cap V d i s u y z A B=>
 simp only[ya.kind,ya.letter,ya.num] at D o;obtain rfl:kv=(k:Int):=by rcases d with⟨d,_⟩|⟨d,_⟩;exact d;omega
 clear d s u y z A B
 by_cases j:k=21
 ·subst j
  go_enter Tryz.func76,Tryz.ntmps76
  go_wp2;go_ret
  exact⟨rfl,_,yb _ _⟩
 ·obtain rfl:k=20:=by omega
  have C:=yag n i
  by_cases a:l=98
  ·subst a
   by_cases g:n=1
   ·subst g
    go_enter Tryz.func76,Tryz.ntmps76
    go_wp2;go_ret
    exact⟨rfl,_,yb _ _⟩
   ·have p:((n:Int) == 1)=false:=by simp;omega
    go_enter Tryz.func76,Tryz.ntmps76
    go_wp2;go_ret
    refine⟨?_,_,yb _ _⟩
    show _=Ending.returned (.string ⟨(gv 98 n f).toArray⟩)
    unfold gv;rw[if_pos rfl,if_neg g]
    rfl
  ·have q:=u8i (l:=l) (c:=98) (fun h=>a (UInt8.toNat_inj.1 h))
   by_cases b:l=99
   ·subst b
    have m:n<=255:=o rfl rfl;have F:=yyy (w.alloc (.cells #[.int .i64 20,.int .u8 99,.string ⟨nm.toArray⟩,.int .u64 n,.bool f,.slice ao kids.length cap] 28)) (w.heap.size+1) (n:Int) (by simp) (by omega) (by omega)
    go_enter Tryz.func76,Tryz.ntmps76
    go_wp2;go_ret
    exact⟨rfl,_,by rw[yb,yb,yd]⟩
   ·have r:=u8i (l:=l) (c:=99) (fun h=>b (UInt8.toNat_inj.1 h))
    cases f with
    | true=>
     go_enter Tryz.func76,Tryz.ntmps76
     go_wp2_with fail
     refine(ych n _ i).mono ?_;rintro e E ⟨rfl,x,rfl⟩;go_wp2;go_ret;refine⟨?_,_,by rw[yb,yd]⟩
     show _=Ending.returned (.string ⟨(gv l n true).toArray⟩)
     unfold gv;rw[if_neg a,if_neg b]
     rfl
    | false=>
     go_enter Tryz.func76,Tryz.ntmps76
     go_wp2_with fail
     refine(ych n _ i).mono ?_;rintro e E ⟨rfl,x,rfl⟩;go_wp2;go_ret;refine⟨?_,_,by rw[yb,yd]⟩
     show _=Ending.returned (.string ⟨(gv l n false).toArray⟩)
     unfold gv;rw[if_neg a,if_neg b]
     rfl
def ydz (w:World)(v:Value)(xs:List (List UInt8)):Prop:=
 ∃ ao cap,v=.slice ao xs.length cap/\xs.length<=cap/\cap<=maxLen/\(xs≠[]->∃ b o,ao=some ⟨b,o,none⟩)/\∀ i b o,i < xs.length->ao=some ⟨b,o,none⟩->w.cell? ⟨b,o+i,none⟩=some (.string ⟨(xs.getD i []).toArray⟩)
theorem ycz (sep:List UInt8)(xs:List (List UInt8))(k:Nat)(h:k < xs.length):zl sep (xs.take (k+1))=zl sep (xs.take k)++(if k=0 then [] else sep)++xs.getD k []:=by
 have b:xs.take (k+1)=xs.take k++[xs.getD k []]:=by
  rw[lts h,lgd,lge h];rfl
 rw[b]
 cases a:xs.take k with
 | nil=>
  have:k=0:=by
   have:=congrArg List.length a;rw[List.length_take,List.length_nil] at this;omega
  rw[if_pos this];simp[zl]
 | cons y l=>
  have:¬ k=0:=by rintro rfl;simp at a
  rw[if_neg this];simp[zl]
theorem yso (sep:List UInt8)(xs:List (List UInt8)):∀ k,(zl sep (xs.take k)).length<=(zl sep xs).length:=by
 intro k
 rcases Nat.lt_or_ge k xs.length with h|h
 ·have:∀ j,k+j<=xs.length->(zl sep (xs.take k)).length<=(zl sep (xs.take (k+j))).length:=by
   intro j
   induction j with
   | zero=>exact fun _=>Nat.le_refl _
   | succ j a=>
    intro b;have:=a (by omega);rw[show k+(j+1)=(k+j)+1 by omega,ycz _ _ _ (by omega)];simp only[List.length_append];omega
  have:=this (xs.length-k) (by omega)
  rwa[show k+(xs.length-k)=xs.length by omega,List.take_length] at this
 ·rw[List.take_of_length_le h];exact Nat.le_refl _
theorem zj {w:World}{v:Value}{xs:List (List UInt8)}{sep:List UInt8}(h:ydz w v xs)(m:(zl sep xs).length<=1000000000)(x:sep.length<=1000) :
  Calls Tryz.prog 49 #[v,.string ⟨sep.toArray⟩] w fun e w'=>e=.returned (.string ⟨(zl sep xs).toArray⟩)/\w'=w:=by
 obtain⟨ao,cap,rfl,t,q,j,l⟩:=h;unfold maxLen at q;have p:=lh m;clear m
 go_enter Tryz.func49,Tryz.ntmps49
 go_wp2
 go_loopw [5,6,7,10] (fun v5 z A g wr=>∃ k:Nat,k<=xs.length/\g=.int .i64 k/\v5=.string ⟨(zl sep (xs.take k)).toArray⟩/\wr=w) (fun _ _ _ g _=>xs.length-(intOf g).toNat)
 case atStart=>exact⟨0,by omega,rfl,rfl,rfl⟩
 case round=>
  obtain⟨k,u,rfl,rfl,rfl⟩:=hrel
  by_cases d:k < xs.length
  ·obtain⟨b,o,rfl⟩:=j (fun h=>by rw[h] at d;simp at d)
   have f:=l k b o d rfl;have c:=ycz sep xs k d;have a:=yso sep xs (k+1);rw[c] at a;have s:=p.out;simp only[List.length_append] at a;obtain⟨y,n⟩:∃ y,xs.getD k []=y:=⟨_,rfl⟩;rw[n] at f c a;clear j l n
   by_cases r:0 < k
   ·rw[if_neg (by omega)] at c a
    have i:=lh c;clear c;go_wp2;exact⟨⟨k+1,by omega,by simp,by rw[i.out];simp,trivial⟩,by simp[intOf];omega⟩
   ·rw[if_pos (by omega)] at c a
    rw[List.append_nil] at c;have i:=lh c;clear c;simp only[List.length_nil] at a;go_wp2;exact⟨⟨k+1,by omega,by simp,by rw[i.out],trivial⟩,by simp[intOf];omega⟩
  ·obtain rfl:k=xs.length:=by omega
   rw[List.take_length];go_wp2;go_ret;exact⟨rfl,rfl⟩
def ya0 (t:ya):List UInt8:=
 if t.letter=67\/t.letter=83 then [123]++(if t.letter=67 then [99,108,111,115,117,114,101] else [115,104,105,109])++(if t.name=[] then [] else 58::t.name)++(35::(Lib.decDigits t.num++[125])) else t.name
theorem yj5 {w:World}{t:ya}{v:Value}(h:yg w t v)(o:t.kind=5)(C:t.name.length<=1000):Calls Tryz.prog 48 #[v] w fun e w'=>Rtn w (.string ⟨(ya0 t).toArray⟩) e w':=by
 cases h with
 | @mk kv k l nm n f kids ao cap V g i r s u y z A=>
 simp only[ya.kind,ya.name] at o C;obtain rfl:kv=(k:Int):=by rcases g with⟨g,_⟩|⟨g,_⟩;exact g;omega
 subst o;clear g r s u y z A;have B:=yag n i
 by_cases b:l=67
 ·subst b
  by_cases a:nm=[]
  ·subst a
   go_enter Tryz.func48,Tryz.ntmps48
   go_wp2_with fail
   refine(ych n _ i).mono ?_;rintro e m ⟨rfl,x,rfl⟩;go_wp2;go_ret;refine⟨?_,_,by rw[yb,yd]⟩;simp[ya0,ya.letter,ya.name,ya.num]
  ·have j:nm.isEmpty=false:=by simpa using a
   go_enter Tryz.func48,Tryz.ntmps48
   go_wp2_with fail
   refine(ych n _ i).mono ?_;rintro e m ⟨rfl,x,rfl⟩;go_wp2;go_ret;refine⟨?_,_,by rw[yb,yd]⟩;simp[ya0,ya.letter,ya.name,ya.num,a]
 ·have p:=u8i (l:=l) (c:=67) (fun h=>b (UInt8.toNat_inj.1 h))
  by_cases d:l=83
  ·subst d
   by_cases a:nm=[]
   ·subst a
    go_enter Tryz.func48,Tryz.ntmps48
    go_wp2_with fail
    refine(ych n _ i).mono ?_;rintro e m ⟨rfl,x,rfl⟩;go_wp2;go_ret;refine⟨?_,_,by rw[yb,yd]⟩;simp[ya0,ya.letter,ya.name,ya.num]
   ·have j:nm.isEmpty=false:=by simpa using a
    go_enter Tryz.func48,Tryz.ntmps48
    go_wp2_with fail
    refine(ych n _ i).mono ?_;rintro e m ⟨rfl,x,rfl⟩;go_wp2;go_ret;refine⟨?_,_,by rw[yb,yd]⟩;simp[ya0,ya.letter,ya.name,ya.num,a]
  ·have q:=u8i (l:=l) (c:=83) (fun h=>d (UInt8.toNat_inj.1 h))
   go_enter Tryz.func48,Tryz.ntmps48
   go_wp2;go_ret
   refine⟨?_,_,yb _ _⟩;simp[ya0,ya.letter,ya.name,ya.num,b,d]
def yhz (c:UInt8):List UInt8:=(kw c).getD []
theorem ya4 {w:World}(c:UInt8):Calls Tryz.prog 75 #[.int .u8 c.toNat] w fun e w'=>e=.returned (.string ⟨(yhz c).toArray⟩)/\w'=w:=by
 by_cases hb:∃ x,kw c=some x
 ·obtain⟨x,hb⟩:=hb
  have a:yhz c=x:=by unfold yhz;rw[hb];rfl
  rw[a];unfold kw at hb
  split at hb<;>first|(cases hb;done)|skip
  all_goals
   rename_i y;obtain rfl:=Option.some.inj hb;rw[y];clear hb a y
   go_enter Tryz.func75,Tryz.ntmps75
   go_wp2;go_ret
   exact⟨rfl,rfl⟩
 ·have a:yhz c=[]:=by
   unfold yhz
   cases h:kw c with
   | none=>rfl
   | some x=>exact absurd ⟨x,h⟩ hb
  rw[a];have z:((c.toNat:Int) == 97)=false:=u8i (c:=97) fun h=>hb ⟨_,by unfold kw;rw[h];rfl⟩;have A:((c.toNat:Int) == 98)=false:=u8i (c:=98) fun h=>hb ⟨_,by unfold kw;rw[h];rfl⟩;have B:((c.toNat:Int) == 99)=false:=u8i (c:=99) fun h=>hb ⟨_,by unfold kw;rw[h];rfl⟩;have b:((c.toNat:Int) == 100)=false:=u8i (c:=100) fun h=>hb ⟨_,by unfold kw;rw[h];rfl⟩;have d:((c.toNat:Int) == 101)=false:=u8i (c:=101) fun h=>hb ⟨_,by unfold kw;rw[h];rfl⟩;have f:((c.toNat:Int) == 102)=false:=u8i (c:=102) fun h=>hb ⟨_,by unfold kw;rw[h];rfl⟩;have g:((c.toNat:Int) == 104)=false:=u8i (c:=104) fun h=>hb ⟨_,by unfold kw;rw[h];rfl⟩;have i:((c.toNat:Int) == 105)=false:=u8i (c:=105) fun h=>hb ⟨_,by unfold kw;rw[h];rfl⟩;have j:((c.toNat:Int) == 106)=false:=u8i (c:=106) fun h=>hb ⟨_,by unfold kw;rw[h];rfl⟩;have k:((c.toNat:Int) == 108)=false:=u8i (c:=108) fun h=>hb ⟨_,by unfold kw;rw[h];rfl⟩;have l:((c.toNat:Int) == 109)=false:=u8i (c:=109) fun h=>hb ⟨_,by unfold kw;rw[h];rfl⟩;have m:((c.toNat:Int) == 110)=false:=u8i (c:=110) fun h=>hb ⟨_,by unfold kw;rw[h];rfl⟩;have n:((c.toNat:Int) == 111)=false:=u8i (c:=111) fun h=>hb ⟨_,by unfold kw;rw[h];rfl⟩;have o:((c.toNat:Int) == 112)=false:=u8i (c:=112) fun h=>hb ⟨_,by unfold kw;rw[h];rfl⟩;have p:((c.toNat:Int) == 115)=false:=u8i (c:=115) fun h=>hb ⟨_,by unfold kw;rw[h];rfl⟩;have q:((c.toNat:Int) == 116)=false:=u8i (c:=116) fun h=>hb ⟨_,by unfold kw;rw[h];rfl⟩;have r:((c.toNat:Int) == 117)=false:=u8i (c:=117) fun h=>hb ⟨_,by unfold kw;rw[h];rfl⟩;have s:((c.toNat:Int) == 118)=false:=u8i (c:=118) fun h=>hb ⟨_,by unfold kw;rw[h];rfl⟩;have t:((c.toNat:Int) == 120)=false:=u8i (c:=120) fun h=>hb ⟨_,by unfold kw;rw[h];rfl⟩;have u:((c.toNat:Int) == 121)=false:=u8i (c:=121) fun h=>hb ⟨_,by unfold kw;rw[h];rfl⟩;have v:((c.toNat:Int) == 122)=false:=u8i (c:=122) fun h=>hb ⟨_,by unfold kw;rw[h];rfl⟩;clear hb a
  go_enter Tryz.func75,Tryz.ntmps75
  go_wp2;go_ret
  exact⟨rfl,rfl⟩
theorem Tryz.infoStr: (Tryz.prog.info? 9).map (fun i=>(i.zero,i.size,i.bytes))=some (some (.string ⟨#[]⟩),1,16):=by kernel_rfl
def ke (xs:List (List UInt8)):List Value:=xs.map fun x=>.string ⟨x.toArray⟩
theorem yab {w:World}{B:Nat}{e:TypeId}{v:Value}{n:Nat}{xs:List Value}(h:w.ownsRow B e 1 v n xs)(x:Xt):(ovr w x).ownsRow B e 1 v n xs:=by
 obtain⟨a,i⟩:=h;refine⟨a,i.imp id ?_⟩;rintro ⟨g,cap,b,d,f,c,r⟩;refine⟨g,cap,b,d,f,?_,r⟩;have hb:g < w.heap.size:=by
  rcases Nat.lt_or_ge g w.heap.size with a|a
  ·exact a
  ·rw[Array.getElem?_eq_none a] at c;cases c
 unfold ovr;rw[Array.getElem?_append_left hb];exact c
theorem yd0 {w:World}{B:Nat}{v:Value}{n:Nat}{xs:List (List UInt8)}(h:w.ownsRow B 9 1 v n (ke xs))(m:n=xs.length):ydz w v xs:=by
 subst m
 rcases Nat.eq_zero_or_pos xs.length with d|d
 ·obtain⟨a,c,rfl,e,k,f⟩:=zq h
  have p:xs=[]:=List.eq_nil_of_length_eq_zero d;exact⟨a,c,rfl,k,f,fun h=>absurd p h,fun i b o hi=>by omega⟩
 ·obtain⟨g,c,sp,rfl,hB,l,e,k,f⟩:=ybh h d
  refine⟨_,c,rfl,by omega,f,fun _=>⟨g,0,rfl⟩,fun i b o hi j=>?_⟩
  cases j
  have:=ja l i (by rw[List.length_append,e];omega);rw[Nat.zero_add,this,List.getElem_append_left (by rw[e];exact hi)];unfold ke;rw[List.getElem_map,lgd,lge hi]
  rfl
theorem ydz.ovr {w:World}{v:Value}{xs:List (List UInt8)}(h:ydz w v xs)(x:Xt):ydz (ovr w x) v xs:=by
 obtain⟨ao,cap,a,c,d,e,f⟩:=h;exact⟨ao,cap,a,c,d,e,fun i b o hi g=>yf (f i b o hi g) x⟩
theorem ku {B:Nat}{w wr:World}(h:Below B w wr)(a:B<=wr.heap.size)(x:Xt):Below B w (ovr wr x)/\B<=(ovr wr x).heap.size:=
 ⟨h.trans ((qp wr x).mono a),by have:=(qp wr x).size;omega⟩
theorem yah {w:World}{n b:Nat}(hb:b+n<=20):Calls Tryz.prog 104 #[.int .i64 n,.int .i64 b] w fun e w'=>Rtn w (.string ⟨(qh n b).toArray⟩) e w':=by
 by_cases M:n=0
 ·subst M
  go_enter Tryz.func104,Tryz.ntmps104
  go_wp2;go_ret
  exact .of ⟨w.drawn,#[]⟩ (ycj _).symm
 ·obtain⟨i0,hi,H,I,J⟩:=info_parts Tryz.infoStr
  obtain⟨T,E⟩:∃ T,T=(List.range n).map fun i=>zc (n-i) (b+n):=⟨_,rfl⟩;have A:T.length=n:=by rw[E];simp
  have z:∀ i,i < n->T.getD i []=zc (n-i) (b+n):=fun i hi=>by rw[E,lgd,List.getElem?_map,List.getElem?_range hi];rfl
  have W:((n:Int) == 0)=false:=by simp;omega
  obtain⟨B,hB⟩:∃ B,B=w.heap.size:=⟨_,rfl⟩;have L:Hid (B=w.heap.size):=hB;have R:=lh E;have l:=lh A;have u:=lh z;clear hB E A z
  go_enter Tryz.func104,Tryz.ntmps104
  go_wp2
  go_loopw [5,6] (fun v i wr=>∃ (k:Nat) (a:Option Addr) (c:Nat),k<=n/\v=.slice a k c/\i=.int .i64 k/\wr.ownsRow B 9 1 (.slice a k c) k (ke (T.take k))/\Below B w wr/\B<=wr.heap.size) (fun _ i _=>n-(intOf i).toNat)
  case atStart=>exact⟨0,none,0,by omega,rfl,rfl,⟨by simp[ke],.inl ⟨rfl,rfl⟩⟩,Below.refl _ _,Nat.le_of_eq L.out⟩
  case round=>
   obtain⟨k,a,c,hk,rfl,rfl,g,m,C⟩:=hrel
   by_cases t:k < n
   ·have P:ke (T.take (k+1))=ke (T.take k)++[.string ⟨(zc (n-k) (b+n)).toArray⟩]:=by
     rw[lts (by rw[l.out];exact t)];unfold ke;rw[List.map_append];have:=u.out k t;rw[lgd,lge (by rw[l.out];exact t)] at this;simp only[Option.getD_some] at this;simp[this]
    have S:=lh P;clear P;have F:=yad (w:=wr) (n:=n-k) (b:=b+n) (by omega) (by omega);rw[show((n-k:Nat):Int)=(n:Int)-(k:Int) by omega,show((b+n:Nat):Int)=(b:Int)+(n:Int) by omega] at F
    go_wp2_with fail
    refine F.mono ?_;rintro e Q ⟨rfl,x,rfl⟩;clear F;have d:=yab g x;obtain⟨f,r⟩:=ku m C x;generalize ovr wr x=K at d f r |-;clear g m C
    go_wp2_with(at_builtin;refine wpList_append_own _ rfl _ _ 66 rfl B 9 i0 (.string ⟨#[]⟩) 1 16 Tryz.underlying66 hi H I J rfl (by decide) _ _ _ rfl (d.alloc _) ⟨K.heap.size,0,none⟩ 1 1 [.string ⟨(zc (n-k) (b+n)).toArray⟩] rfl rfl ?c1 ?c2 ?c3 ?c4 ?c5 ?_)
    case c1=>exact cell_one_new _ _ _
    case c2=>simp[Value.oneCell']
    case c3=>unfold maxLen;omega
    case c4=>omega
    case c5=>simp;omega
    intro Z w2 p o _;obtain⟨s,D⟩:=xe f r d o;have q:w2.ownsRow B 9 1 Z (k+1) (ke (T.take (k+1))):=by rw[S.out];simpa using p
    obtain⟨U,V,rfl,-,-,-⟩:=zq q;clear p o d f r;go_wp2
    go_roundw
    case rel=>exact⟨k+1,U,V,by omega,rfl,by go_num,q,s,D⟩
    case measure=>simp[intOf];omega
   ·obtain rfl:k=n:=by omega
    have y:T.take k=T:=by rw[List.take_of_length_le (by rw[l.out];exact Nat.le_refl _)]
    rw[y] at g;have X:=yd0 g l.out.symm;have O:(zl [44,32] T).length<=1000:=by
     have:∀ j,j<=k->(zl [44,32] (T.take j)).length<=4*j:=by
      intro j
      induction j with
      | zero=>intro _;simp[zl]
      | succ j Y=>
       intro h;have:=Y (by omega);rw[ycz _ _ _ (by rw[l.out];omega),u.out j (by omega)];simp only[List.length_append,yac]
       split<;>simp<;>omega
     have:=this k (Nat.le_refl _);rw[y] at this;omega
    have N:=zj (sep:=[44,32]) X (by omega) (by simp)
    go_wp2_with fail
    refine N.mono ?_;rintro e Q ⟨rfl,rfl⟩;clear N;go_wp2;go_ret;have G:Below w.heap.size w Q:=L.out▸m;refine⟨?_,ybj G⟩;unfold qh;rw[if_neg M,<-R.out];simp
theorem yao {P:Program}{id:Nat}{Q:Exit->Act->World->Prop}{a:Act}{w:World}{l:List Oper}(c:P.follows .mixedOrders=true)(hB:Region.lexB .any l.toArray=true)
  (h:wpQuiet P l.toArray (fun w'=>∃ x,w'=ovr w x) (fun b=>∀ w',(∃ x,w'=ovr w x)->Q .normal b w') l a):(Code.region id l.toArray true).wp P Q a w:=
 wp_region_quiet (C:=fun w'=>∃ x,w'=ovr w x) c hB ⟨⟨w.drawn+1,#[]⟩,by unfold ovr;simp⟩ (by simpa using h)
theorem ybn {P:Program}{f:FuncId}{args:Array Value}{w:World}{x:Xt}{v:Value}(h:Calls P f args (ovr w x) fun e w'=>Rtn (ovr w x) v e w'):Calls P f args (ovr w x) fun e w'=>e=.returned v/\∃ z,w'=ovr w z:=
 h.mono fun _ _ ⟨a,y,b⟩=>⟨a,_,b.trans (yd w x y)⟩
theorem zn (w:World)(C:Array Value)(t:TypeId)(j:Nat)(v:Value)(h:C[j]? = some v)(x:Xt):(ovr (w.alloc (.cells C t)) x).cell? ⟨w.heap.size,j,none⟩=some v:=
 yf (by rw[World.cell?_alloc_mark];exact h) x
theorem yk {w:World}{a:Addr}{v:Value}(h:w.cell? a=some v)(o:Obj)(x:Xt):(ovr (w.alloc o) x).cell? a=some v:=by
 rw[yb,yd];exact yf h _
theorem yi {w:World}{a:Addr}{v:Value}(h:w.cell? a=some v)(o:Obj):(w.alloc o).cell? a=some v:=by
 rw[yb];exact yf h _
def yam (b:Nat)(v:Bool)(t:ya)(x:List UInt8):Prop:=∀ w tv,yg w t tv->Calls Tryz.prog 38 #[tv,.int .i64 b,.bool v] w fun e w'=>Rtn w (.string ⟨x.toArray⟩) e w'
def gb (b:Nat)(t:ya)(x:List UInt8):Prop:=∀ w tv,yg w t tv->Calls Tryz.prog 47 #[tv,.int .i64 b] w fun e w'=>Rtn w (.string ⟨x.toArray⟩) e w'
theorem yq6 {b:Nat}{v:Bool}{l:UInt8}{nm:List UInt8}{n:Nat}{f:Bool} : yam b v (.mk 1 l nm n f []) nm:=by
 intro w m h
 cases h with
 | @mk kv _ _ _ _ _ _ ao cap V a g i j k c d e=>
 obtain rfl:kv=1:=by rcases a with⟨a,_⟩|⟨a,_⟩;exact a;omega
 clear a c d e
 go_enter Tryz.func38,Tryz.ntmps38
 go_wp2;go_ret
 exact⟨rfl,_,yb _ _⟩
theorem yuo {b:Nat}{v:Bool}{l:UInt8}{nm:List UInt8}{n:Nat}{f:Bool}{p t:ya}{x:List UInt8}(R:x.length<=1000000000)(M:gb b t x):yam b v (.mk 2 l nm n f [p,t]) ([60]++x++[62]):=by
 intro w S h
 cases h with
 | @mk kv _ _ _ _ _ _ ao cap V g O L P Q i d j=>
 obtain rfl:kv=2:=by rcases g with⟨g,_⟩|⟨g,_⟩;exact g;omega
 obtain⟨a,c,rfl⟩:=i (by simp);have k:∀ o,(w.alloc o).cell? ⟨a,c+6,none⟩=some (V 1 0):=fun o=>yi (d 1 a c 0 (by simp) rfl (by omega)) o;have F:∀ x,(ovr w x).cell? ⟨a,c+6,none⟩=some (V 1 0):=fun x=>yf (d 1 a c 0 (by simp) rfl (by omega)) x;have z:∀ o x,(ovr (w.alloc o) x).cell? ⟨a,c+6,none⟩=some (V 1 0):=fun o x=>yk (d 1 a c 0 (by simp) rfl (by omega)) o x;have m:∀ o,(w.alloc o).cell? ⟨a,c+7,none⟩=some (V 1 1):=fun o=>yi (d 1 a c 1 (by simp) rfl (by omega)) o;have G:∀ x,(ovr w x).cell? ⟨a,c+7,none⟩=some (V 1 1):=fun x=>yf (d 1 a c 1 (by simp) rfl (by omega)) x;have A:∀ o x,(ovr (w.alloc o) x).cell? ⟨a,c+7,none⟩=some (V 1 1):=fun o x=>yk (d 1 a c 1 (by simp) rfl (by omega)) o x;have q:∀ o,(w.alloc o).cell? ⟨a,c+8,none⟩=some (V 1 2):=fun o=>yi (d 1 a c 2 (by simp) rfl (by omega)) o;have H:∀ x,(ovr w x).cell? ⟨a,c+8,none⟩=some (V 1 2):=fun x=>yf (d 1 a c 2 (by simp) rfl (by omega)) x;have B:∀ o x,(ovr (w.alloc o) x).cell? ⟨a,c+8,none⟩=some (V 1 2):=fun o x=>yk (d 1 a c 2 (by simp) rfl (by omega)) o x;have r:∀ o,(w.alloc o).cell? ⟨a,c+9,none⟩=some (V 1 3):=fun o=>yi (d 1 a c 3 (by simp) rfl (by omega)) o;have I:∀ x,(ovr w x).cell? ⟨a,c+9,none⟩=some (V 1 3):=fun x=>yf (d 1 a c 3 (by simp) rfl (by omega)) x;have C:∀ o x,(ovr (w.alloc o) x).cell? ⟨a,c+9,none⟩=some (V 1 3):=fun o x=>yk (d 1 a c 3 (by simp) rfl (by omega)) o x;have s:∀ o,(w.alloc o).cell? ⟨a,c+10,none⟩=some (V 1 4):=fun o=>yi (d 1 a c 4 (by simp) rfl (by omega)) o;have J:∀ x,(ovr w x).cell? ⟨a,c+10,none⟩=some (V 1 4):=fun x=>yf (d 1 a c 4 (by simp) rfl (by omega)) x;have D:∀ o x,(ovr (w.alloc o) x).cell? ⟨a,c+10,none⟩=some (V 1 4):=fun o x=>yk (d 1 a c 4 (by simp) rfl (by omega)) o x;have u:∀ o,(w.alloc o).cell? ⟨a,c+11,none⟩=some (V 1 5):=fun o=>yi (d 1 a c 5 (by simp) rfl (by omega)) o;have K:∀ x,(ovr w x).cell? ⟨a,c+11,none⟩=some (V 1 5):=fun x=>yf (d 1 a c 5 (by simp) rfl (by omega)) x;have E:∀ o x,(ovr (w.alloc o) x).cell? ⟨a,c+11,none⟩=some (V 1 5):=fun o x=>yk (d 1 a c 5 (by simp) rfl (by omega)) o x;have N:yg w t (.agg #[V 1 0,V 1 1,V 1 2,V 1 3,V 1 4,V 1 5]):=j 1 (by simp);simp only[List.length_cons,List.length_nil] at L;clear g i d j
 go_enter Tryz.func38,Tryz.ntmps38
 go_wp2_with fail
 refine(M _ _ (by rw[yb];exact N.ovr _)).mono ?_;rintro e T ⟨rfl,y,rfl⟩;go_wp2;go_ret;refine⟨?_,_,by rw[yb,yd]⟩
 rfl
theorem yq5 {b:Nat}{v:Bool}{l:UInt8}{nm:List UInt8}{n:Nat}{f:Bool}{p t q:ya}{x z:List UInt8}(hx:x.length<=1000000000)(hz:z.length<=1000000000)(ht:gb b t x)(hq:yam b false q z):yam b v (.mk 3 l nm n f [p,t,q]) ([60]++x++[32,97,115,32]++z++[62]):=by
 intro w tv h
 cases h with
 | @mk kv _ _ _ _ _ _ ao cap V e h2 h3 h4 h5 i d g=>
 obtain rfl:kv=3:=by rcases e with⟨e,_⟩|⟨e,_⟩;exact e;omega
 obtain⟨a,c,rfl⟩:=i (by simp);have j:∀ o,(w.alloc o).cell? ⟨a,c+6,none⟩=some (V 1 0):=fun o=>yi (d 1 a c 0 (by simp) rfl (by omega)) o;have S:∀ x,(ovr w x).cell? ⟨a,c+6,none⟩=some (V 1 0):=fun x=>yf (d 1 a c 0 (by simp) rfl (by omega)) x;have G:∀ o x,(ovr (w.alloc o) x).cell? ⟨a,c+6,none⟩=some (V 1 0):=fun o x=>yk (d 1 a c 0 (by simp) rfl (by omega)) o x;have k:∀ o,(w.alloc o).cell? ⟨a,c+7,none⟩=some (V 1 1):=fun o=>yi (d 1 a c 1 (by simp) rfl (by omega)) o;have T:∀ x,(ovr w x).cell? ⟨a,c+7,none⟩=some (V 1 1):=fun x=>yf (d 1 a c 1 (by simp) rfl (by omega)) x;have H:∀ o x,(ovr (w.alloc o) x).cell? ⟨a,c+7,none⟩=some (V 1 1):=fun o x=>yk (d 1 a c 1 (by simp) rfl (by omega)) o x;have m:∀ o,(w.alloc o).cell? ⟨a,c+8,none⟩=some (V 1 2):=fun o=>yi (d 1 a c 2 (by simp) rfl (by omega)) o;have U:∀ x,(ovr w x).cell? ⟨a,c+8,none⟩=some (V 1 2):=fun x=>yf (d 1 a c 2 (by simp) rfl (by omega)) x;have I:∀ o x,(ovr (w.alloc o) x).cell? ⟨a,c+8,none⟩=some (V 1 2):=fun o x=>yk (d 1 a c 2 (by simp) rfl (by omega)) o x;have r:∀ o,(w.alloc o).cell? ⟨a,c+9,none⟩=some (V 1 3):=fun o=>yi (d 1 a c 3 (by simp) rfl (by omega)) o;have W:∀ x,(ovr w x).cell? ⟨a,c+9,none⟩=some (V 1 3):=fun x=>yf (d 1 a c 3 (by simp) rfl (by omega)) x;have J:∀ o x,(ovr (w.alloc o) x).cell? ⟨a,c+9,none⟩=some (V 1 3):=fun o x=>yk (d 1 a c 3 (by simp) rfl (by omega)) o x;have s:∀ o,(w.alloc o).cell? ⟨a,c+10,none⟩=some (V 1 4):=fun o=>yi (d 1 a c 4 (by simp) rfl (by omega)) o;have X:∀ x,(ovr w x).cell? ⟨a,c+10,none⟩=some (V 1 4):=fun x=>yf (d 1 a c 4 (by simp) rfl (by omega)) x;have K:∀ o x,(ovr (w.alloc o) x).cell? ⟨a,c+10,none⟩=some (V 1 4):=fun o x=>yk (d 1 a c 4 (by simp) rfl (by omega)) o x;have u:∀ o,(w.alloc o).cell? ⟨a,c+11,none⟩=some (V 1 5):=fun o=>yi (d 1 a c 5 (by simp) rfl (by omega)) o;have Y:∀ x,(ovr w x).cell? ⟨a,c+11,none⟩=some (V 1 5):=fun x=>yf (d 1 a c 5 (by simp) rfl (by omega)) x;have L:∀ o x,(ovr (w.alloc o) x).cell? ⟨a,c+11,none⟩=some (V 1 5):=fun o x=>yk (d 1 a c 5 (by simp) rfl (by omega)) o x;have t1:yg w t (.agg #[V 1 0,V 1 1,V 1 2,V 1 3,V 1 4,V 1 5]):=g 1 (by simp);have A:∀ o,(w.alloc o).cell? ⟨a,c+12,none⟩=some (V 2 0):=fun o=>yi (d 2 a c 0 (by simp) rfl (by omega)) o;have Z:∀ x,(ovr w x).cell? ⟨a,c+12,none⟩=some (V 2 0):=fun x=>yf (d 2 a c 0 (by simp) rfl (by omega)) x;have M:∀ o x,(ovr (w.alloc o) x).cell? ⟨a,c+12,none⟩=some (V 2 0):=fun o x=>yk (d 2 a c 0 (by simp) rfl (by omega)) o x;have B:∀ o,(w.alloc o).cell? ⟨a,c+13,none⟩=some (V 2 1):=fun o=>yi (d 2 a c 1 (by simp) rfl (by omega)) o;have aa:∀ x,(ovr w x).cell? ⟨a,c+13,none⟩=some (V 2 1):=fun x=>yf (d 2 a c 1 (by simp) rfl (by omega)) x;have N:∀ o x,(ovr (w.alloc o) x).cell? ⟨a,c+13,none⟩=some (V 2 1):=fun o x=>yk (d 2 a c 1 (by simp) rfl (by omega)) o x;have C:∀ o,(w.alloc o).cell? ⟨a,c+14,none⟩=some (V 2 2):=fun o=>yi (d 2 a c 2 (by simp) rfl (by omega)) o;have ab:∀ x,(ovr w x).cell? ⟨a,c+14,none⟩=some (V 2 2):=fun x=>yf (d 2 a c 2 (by simp) rfl (by omega)) x;have O:∀ o x,(ovr (w.alloc o) x).cell? ⟨a,c+14,none⟩=some (V 2 2):=fun o x=>yk (d 2 a c 2 (by simp) rfl (by omega)) o x;have D:∀ o,(w.alloc o).cell? ⟨a,c+15,none⟩=some (V 2 3):=fun o=>yi (d 2 a c 3 (by simp) rfl (by omega)) o;have ac:∀ x,(ovr w x).cell? ⟨a,c+15,none⟩=some (V 2 3):=fun x=>yf (d 2 a c 3 (by simp) rfl (by omega)) x;have P:∀ o x,(ovr (w.alloc o) x).cell? ⟨a,c+15,none⟩=some (V 2 3):=fun o x=>yk (d 2 a c 3 (by simp) rfl (by omega)) o x;have E:∀ o,(w.alloc o).cell? ⟨a,c+16,none⟩=some (V 2 4):=fun o=>yi (d 2 a c 4 (by simp) rfl (by omega)) o;have ad:∀ x,(ovr w x).cell? ⟨a,c+16,none⟩=some (V 2 4):=fun x=>yf (d 2 a c 4 (by simp) rfl (by omega)) x;have Q:∀ o x,(ovr (w.alloc o) x).cell? ⟨a,c+16,none⟩=some (V 2 4):=fun o x=>yk (d 2 a c 4 (by simp) rfl (by omega)) o x;have F:∀ o,(w.alloc o).cell? ⟨a,c+17,none⟩=some (V 2 5):=fun o=>yi (d 2 a c 5 (by simp) rfl (by omega)) o
 have ae:∀ x,(ovr w x).cell? ⟨a,c+17,none⟩=some (V 2 5):=fun x=>yf (d 2 a c 5 (by simp) rfl (by omega)) x;have R:∀ o x,(ovr (w.alloc o) x).cell? ⟨a,c+17,none⟩=some (V 2 5):=fun o x=>yk (d 2 a c 5 (by simp) rfl (by omega)) o x;have t2:yg w q (.agg #[V 2 0,V 2 1,V 2 2,V 2 3,V 2 4,V 2 5]):=g 2 (by simp);simp only[List.length_cons,List.length_nil] at h3;have b5:∀ x,(ovr (w.alloc (.cells #[.int .i64 3,.int .u8 l.toNat,.string ⟨nm.toArray⟩,.int .u64 n,.bool f,.slice (some ⟨a,c,none⟩) 3 cap] 28)) x).cell? ⟨w.heap.size,5,none⟩=some (.slice (some ⟨a,c,none⟩) 3 cap):=fun x=>zn _ _ _ _ _ rfl x;clear e i d g
 go_enter Tryz.func38,Tryz.ntmps38
 go_wp2;refine yao (by kernel_rfl) (by kernel_rfl) ?_
 repeat(go_big_quiet_step (first|exact ybn (ht _ _ (by rw[yb,yd];exact t1.ovr _))|exact ybn (hq _ _ (by rw[yb,yd];exact t2.ovr _))))
 refine wpQuiet_nil ?_;rintro _ ⟨y,rfl⟩;go_wp2;go_ret;refine⟨?_,_,by rw[yb,yd]⟩;simp
theorem yun {b:Nat}{v:Bool}{l:UInt8}{nm:List UInt8}{n:Nat}{f:Bool}{t q:ya}{x z:List UInt8}(hx:x.length<=1000000000)(hz:z.length<=1000000000)(ht:gb b t x)(hq:yam b false q z):yam b v (.mk 4 l nm n f [t,q]) ([60]++x++[32,97,115,32]++z++[62]):=by
 intro w tv h
 cases h with
 | @mk kv _ _ _ _ _ _ ao cap V e h2 h3 h4 h5 i d g=>
 obtain rfl:kv=4:=by rcases e with⟨e,_⟩|⟨e,_⟩;exact e;omega
 obtain⟨a,c,rfl⟩:=i (by simp);have j:∀ o,(w.alloc o).cell? ⟨a,c,none⟩=some (V 0 0):=fun o=>yi (d 0 a c 0 (by simp) rfl (by omega)) o;have R:∀ x,(ovr w x).cell? ⟨a,c,none⟩=some (V 0 0):=fun x=>yf (d 0 a c 0 (by simp) rfl (by omega)) x;have F:∀ o x,(ovr (w.alloc o) x).cell? ⟨a,c,none⟩=some (V 0 0):=fun o x=>yk (d 0 a c 0 (by simp) rfl (by omega)) o x;have k:∀ o,(w.alloc o).cell? ⟨a,c+1,none⟩=some (V 0 1):=fun o=>yi (d 0 a c 1 (by simp) rfl (by omega)) o;have S:∀ x,(ovr w x).cell? ⟨a,c+1,none⟩=some (V 0 1):=fun x=>yf (d 0 a c 1 (by simp) rfl (by omega)) x;have G:∀ o x,(ovr (w.alloc o) x).cell? ⟨a,c+1,none⟩=some (V 0 1):=fun o x=>yk (d 0 a c 1 (by simp) rfl (by omega)) o x;have m:∀ o,(w.alloc o).cell? ⟨a,c+2,none⟩=some (V 0 2):=fun o=>yi (d 0 a c 2 (by simp) rfl (by omega)) o;have T:∀ x,(ovr w x).cell? ⟨a,c+2,none⟩=some (V 0 2):=fun x=>yf (d 0 a c 2 (by simp) rfl (by omega)) x;have H:∀ o x,(ovr (w.alloc o) x).cell? ⟨a,c+2,none⟩=some (V 0 2):=fun o x=>yk (d 0 a c 2 (by simp) rfl (by omega)) o x;have p:∀ o,(w.alloc o).cell? ⟨a,c+3,none⟩=some (V 0 3):=fun o=>yi (d 0 a c 3 (by simp) rfl (by omega)) o;have U:∀ x,(ovr w x).cell? ⟨a,c+3,none⟩=some (V 0 3):=fun x=>yf (d 0 a c 3 (by simp) rfl (by omega)) x;have I:∀ o x,(ovr (w.alloc o) x).cell? ⟨a,c+3,none⟩=some (V 0 3):=fun o x=>yk (d 0 a c 3 (by simp) rfl (by omega)) o x;have r:∀ o,(w.alloc o).cell? ⟨a,c+4,none⟩=some (V 0 4):=fun o=>yi (d 0 a c 4 (by simp) rfl (by omega)) o;have W:∀ x,(ovr w x).cell? ⟨a,c+4,none⟩=some (V 0 4):=fun x=>yf (d 0 a c 4 (by simp) rfl (by omega)) x;have J:∀ o x,(ovr (w.alloc o) x).cell? ⟨a,c+4,none⟩=some (V 0 4):=fun o x=>yk (d 0 a c 4 (by simp) rfl (by omega)) o x;have s:∀ o,(w.alloc o).cell? ⟨a,c+5,none⟩=some (V 0 5):=fun o=>yi (d 0 a c 5 (by simp) rfl (by omega)) o;have X:∀ x,(ovr w x).cell? ⟨a,c+5,none⟩=some (V 0 5):=fun x=>yf (d 0 a c 5 (by simp) rfl (by omega)) x;have K:∀ o x,(ovr (w.alloc o) x).cell? ⟨a,c+5,none⟩=some (V 0 5):=fun o x=>yk (d 0 a c 5 (by simp) rfl (by omega)) o x;have t0:yg w t (.agg #[V 0 0,V 0 1,V 0 2,V 0 3,V 0 4,V 0 5]):=g 0 (by simp);have u:∀ o,(w.alloc o).cell? ⟨a,c+6,none⟩=some (V 1 0):=fun o=>yi (d 1 a c 0 (by simp) rfl (by omega)) o;have Y:∀ x,(ovr w x).cell? ⟨a,c+6,none⟩=some (V 1 0):=fun x=>yf (d 1 a c 0 (by simp) rfl (by omega)) x;have L:∀ o x,(ovr (w.alloc o) x).cell? ⟨a,c+6,none⟩=some (V 1 0):=fun o x=>yk (d 1 a c 0 (by simp) rfl (by omega)) o x;have A:∀ o,(w.alloc o).cell? ⟨a,c+7,none⟩=some (V 1 1):=fun o=>yi (d 1 a c 1 (by simp) rfl (by omega)) o;have Z:∀ x,(ovr w x).cell? ⟨a,c+7,none⟩=some (V 1 1):=fun x=>yf (d 1 a c 1 (by simp) rfl (by omega)) x;have M:∀ o x,(ovr (w.alloc o) x).cell? ⟨a,c+7,none⟩=some (V 1 1):=fun o x=>yk (d 1 a c 1 (by simp) rfl (by omega)) o x;have B:∀ o,(w.alloc o).cell? ⟨a,c+8,none⟩=some (V 1 2):=fun o=>yi (d 1 a c 2 (by simp) rfl (by omega)) o;have aa:∀ x,(ovr w x).cell? ⟨a,c+8,none⟩=some (V 1 2):=fun x=>yf (d 1 a c 2 (by simp) rfl (by omega)) x;have N:∀ o x,(ovr (w.alloc o) x).cell? ⟨a,c+8,none⟩=some (V 1 2):=fun o x=>yk (d 1 a c 2 (by simp) rfl (by omega)) o x;have C:∀ o,(w.alloc o).cell? ⟨a,c+9,none⟩=some (V 1 3):=fun o=>yi (d 1 a c 3 (by simp) rfl (by omega)) o;have ab:∀ x,(ovr w x).cell? ⟨a,c+9,none⟩=some (V 1 3):=fun x=>yf (d 1 a c 3 (by simp) rfl (by omega)) x;have O:∀ o x,(ovr (w.alloc o) x).cell? ⟨a,c+9,none⟩=some (V 1 3):=fun o x=>yk (d 1 a c 3 (by simp) rfl (by omega)) o x;have D:∀ o,(w.alloc o).cell? ⟨a,c+10,none⟩=some (V 1 4):=fun o=>yi (d 1 a c 4 (by simp) rfl (by omega)) o;have ac:∀ x,(ovr w x).cell? ⟨a,c+10,none⟩=some (V 1 4):=fun x=>yf (d 1 a c 4 (by simp) rfl (by omega)) x;have P:∀ o x,(ovr (w.alloc o) x).cell? ⟨a,c+10,none⟩=some (V 1 4):=fun o x=>yk (d 1 a c 4 (by simp) rfl (by omega)) o x;have E:∀ o,(w.alloc o).cell? ⟨a,c+11,none⟩=some (V 1 5):=fun o=>yi (d 1 a c 5 (by simp) rfl (by omega)) o
 have ad:∀ x,(ovr w x).cell? ⟨a,c+11,none⟩=some (V 1 5):=fun x=>yf (d 1 a c 5 (by simp) rfl (by omega)) x;have Q:∀ o x,(ovr (w.alloc o) x).cell? ⟨a,c+11,none⟩=some (V 1 5):=fun o x=>yk (d 1 a c 5 (by simp) rfl (by omega)) o x;have t1:yg w q (.agg #[V 1 0,V 1 1,V 1 2,V 1 3,V 1 4,V 1 5]):=g 1 (by simp);simp only[List.length_cons,List.length_nil] at h3;have b5:∀ x,(ovr (w.alloc (.cells #[.int .i64 4,.int .u8 l.toNat,.string ⟨nm.toArray⟩,.int .u64 n,.bool f,.slice (some ⟨a,c,none⟩) 2 cap] 28)) x).cell? ⟨w.heap.size,5,none⟩=some (.slice (some ⟨a,c,none⟩) 2 cap):=fun x=>zn _ _ _ _ _ rfl x;clear e i d g
 go_enter Tryz.func38,Tryz.ntmps38
 go_wp2;refine yao (by kernel_rfl) (by kernel_rfl) ?_
 repeat(go_big_quiet_step (first|exact ybn (ht _ _ (by rw[yb,yd];exact t0.ovr _))|exact ybn (hq _ _ (by rw[yb,yd];exact t1.ovr _))))
 refine wpQuiet_nil ?_;rintro _ ⟨y,rfl⟩;go_wp2;go_ret;refine⟨?_,_,by rw[yb,yd]⟩;simp
theorem yir {b:Nat}{v:Bool}{l:UInt8}{nm:List UInt8}{n:Nat}{f:Bool}{p:ya}{x y:List UInt8}(hx:x.length<=1000000000)(S:nm.length<=1000)(T:yam b v p x)(U:ya0 (.mk 5 l nm n f [p])=y)(W:y.length<=2000) :
  yam b v (.mk 5 l nm n f [p]) (x++[58,58]++y):=by
 intro w tv h;have e:=h
 cases h with
 | @mk kv _ _ _ _ _ _ ao cap V i h2 Q h4 h5 k d m=>
 obtain rfl:kv=5:=by rcases i with⟨i,_⟩|⟨i,_⟩;exact i;omega
 obtain⟨a,c,rfl⟩:=k (by simp);have q:∀ o,(w.alloc o).cell? ⟨a,c,none⟩=some (V 0 0):=fun o=>yi (d 0 a c 0 (by simp) rfl (by omega)) o;have J:∀ x,(ovr w x).cell? ⟨a,c,none⟩=some (V 0 0):=fun x=>yf (d 0 a c 0 (by simp) rfl (by omega)) x;have D:∀ o x,(ovr (w.alloc o) x).cell? ⟨a,c,none⟩=some (V 0 0):=fun o x=>yk (d 0 a c 0 (by simp) rfl (by omega)) o x;have r:∀ o,(w.alloc o).cell? ⟨a,c+1,none⟩=some (V 0 1):=fun o=>yi (d 0 a c 1 (by simp) rfl (by omega)) o;have K:∀ x,(ovr w x).cell? ⟨a,c+1,none⟩=some (V 0 1):=fun x=>yf (d 0 a c 1 (by simp) rfl (by omega)) x;have E:∀ o x,(ovr (w.alloc o) x).cell? ⟨a,c+1,none⟩=some (V 0 1):=fun o x=>yk (d 0 a c 1 (by simp) rfl (by omega)) o x;have s:∀ o,(w.alloc o).cell? ⟨a,c+2,none⟩=some (V 0 2):=fun o=>yi (d 0 a c 2 (by simp) rfl (by omega)) o;have L:∀ x,(ovr w x).cell? ⟨a,c+2,none⟩=some (V 0 2):=fun x=>yf (d 0 a c 2 (by simp) rfl (by omega)) x;have F:∀ o x,(ovr (w.alloc o) x).cell? ⟨a,c+2,none⟩=some (V 0 2):=fun o x=>yk (d 0 a c 2 (by simp) rfl (by omega)) o x;have A:∀ o,(w.alloc o).cell? ⟨a,c+3,none⟩=some (V 0 3):=fun o=>yi (d 0 a c 3 (by simp) rfl (by omega)) o;have M:∀ x,(ovr w x).cell? ⟨a,c+3,none⟩=some (V 0 3):=fun x=>yf (d 0 a c 3 (by simp) rfl (by omega)) x;have G:∀ o x,(ovr (w.alloc o) x).cell? ⟨a,c+3,none⟩=some (V 0 3):=fun o x=>yk (d 0 a c 3 (by simp) rfl (by omega)) o x;have B:∀ o,(w.alloc o).cell? ⟨a,c+4,none⟩=some (V 0 4):=fun o=>yi (d 0 a c 4 (by simp) rfl (by omega)) o;have N:∀ x,(ovr w x).cell? ⟨a,c+4,none⟩=some (V 0 4):=fun x=>yf (d 0 a c 4 (by simp) rfl (by omega)) x;have H:∀ o x,(ovr (w.alloc o) x).cell? ⟨a,c+4,none⟩=some (V 0 4):=fun o x=>yk (d 0 a c 4 (by simp) rfl (by omega)) o x;have C:∀ o,(w.alloc o).cell? ⟨a,c+5,none⟩=some (V 0 5):=fun o=>yi (d 0 a c 5 (by simp) rfl (by omega)) o;have O:∀ x,(ovr w x).cell? ⟨a,c+5,none⟩=some (V 0 5):=fun x=>yf (d 0 a c 5 (by simp) rfl (by omega)) x;have I:∀ o x,(ovr (w.alloc o) x).cell? ⟨a,c+5,none⟩=some (V 0 5):=fun o x=>yk (d 0 a c 5 (by simp) rfl (by omega)) o x;have t0:yg w p (.agg #[V 0 0,V 0 1,V 0 2,V 0 3,V 0 4,V 0 5]):=m 0 (by simp);simp only[List.length_cons,List.length_nil] at Q;have g:∀ (j:Nat) (u:Value),(#[.int .i64 5,.int .u8 l.toNat,.string ⟨nm.toArray⟩,.int .u64 n,.bool f,.slice (some ⟨a,c,none⟩) 1 cap]:Array Value)[j]? = some u->∀ x,(ovr (w.alloc (.cells #[.int .i64 5,.int .u8 l.toNat,.string ⟨nm.toArray⟩,.int .u64 n,.bool f,.slice (some ⟨a,c,none⟩) 1 cap] 28)) x).cell? ⟨w.heap.size,j,none⟩=some u:=fun j u R x=>zn _ _ _ _ _ R x;have b0:=g 0 _ rfl;have b1:=g 1 _ rfl;have X:=g 2 _ rfl;have Y:=g 3 _ rfl;have Z:=g 4 _ rfl;have b5:=g 5 _ rfl;have P:=lh e;clear i k d m g e
 go_enter Tryz.func38,Tryz.ntmps38
 go_wp2;refine yao (by kernel_rfl) (by kernel_rfl) ?_
 repeat(go_big_quiet_step (first|exact ybn (T _ _ (by rw[yb,yd];exact t0.ovr _))|exact ybn (yj5 (t:=.mk 5 l nm n f [p]) (by rw[yb,yd];exact P.out.ovr _) rfl S)))
 refine wpQuiet_nil ?_;rintro _ ⟨z,rfl⟩;go_wp2;go_ret;refine⟨?_,_,by rw[yb,yd]⟩;rw[<-U];simp
structure qz (w:World)(ao:Option Addr)(cap:Nat)(kids:List ya):Prop where
 c1:kids.length<=cap
 c2:cap<=maxLen
 nn:kids≠[]->∃ b o,ao=some ⟨b,o,none⟩
 el:∀ i b o,i < kids.length->ao=some ⟨b,o,none⟩->∃ v0 v1 v2 v3 v4 v5,w.cell? ⟨b,o+i*6,none⟩=some v0/\w.cell? ⟨b,o+i*6+1,none⟩=some v1/\w.cell? ⟨b,o+i*6+2,none⟩=some v2/\
  w.cell? ⟨b,o+i*6+3,none⟩=some v3/\w.cell? ⟨b,o+i*6+4,none⟩=some v4/\w.cell? ⟨b,o+i*6+5,none⟩=some v5/\yg w (kids.getD i .zero) (.agg #[v0,v1,v2,v3,v4,v5])
theorem qz.ovr {w:World}{ao:Option Addr}{cap:Nat}{kids:List ya}(h:qz w ao cap kids)(x:Xt):qz (ovr w x) ao cap kids:=by
 refine⟨h.c1,h.c2,h.nn,fun i b o hi j=>?_⟩;obtain⟨v0,v1,v2,v3,v4,v5,a,c,d,e,f,g,k⟩:=h.el i b o hi j;exact⟨v0,v1,v2,v3,v4,v5,yf a x,yf c x,yf d x,yf e x,yf f x,yf g x,k.ovr x⟩
theorem yg.shape {w:World}{t:ya}{v0 v1 v2 v3 v4 v5:Value}(h:yg w t (.agg #[v0,v1,v2,v3,v4,v5])) :
  ∃ (kv:Int) (l:UInt8) (nm:List UInt8) (n:Nat) (f:Bool) (ao:Option Addr) (ln cap:Nat),v0=.int .i64 kv/\v1=.int .u8 l.toNat/\v2=.string ⟨nm.toArray⟩/\v3=.int .u64 n/\v4=.bool f/\v5=.slice ao ln cap:=by
 cases h with
 | mk a b c d e g i j=>exact⟨_,_,_,_,_,_,_,_,rfl,rfl,rfl,rfl,rfl,rfl⟩
theorem xb {B:Nat}{w wr:World}(hB:B=w.heap.size)(h:Below B w wr):∃ x,wr=ovr w x:=by subst hB;exact ybj h
theorem jb {w:World}{ao:Option Addr}{cap b:Nat}{kids:List ya}{T:List (List UInt8)}(hK:qz w ao cap kids)(X:T.length=kids.length)(ag:kids.length<=1000)(Y:∀ i,i < kids.length->gb b (kids.getD i .zero) (T.getD i [])) :
  Calls Tryz.prog 77 #[.slice ao kids.length cap,.int .i64 b] w fun e w'=>∃ v x,e=.returned v/\w'=ovr w x/\ydz w' v T:=by
 obtain⟨i0,hi,K,L,M⟩:=info_parts Tryz.infoStr;obtain⟨B,hB⟩:∃ B,B=w.heap.size:=⟨_,rfl⟩;have F:Hid (B=w.heap.size):=hB;have t:=lh X;have G:=lh Y;have HK:=lh hK;have af:=hK.c1;have I:=hK.c2;have z:=hK.nn;unfold maxLen at I;clear hB X Y hK
 go_enter Tryz.func77,Tryz.ntmps77
 go_wp2
 go_loopw [5,7,10] (fun v v7 i wr=>∃ (k:Nat) (a:Option Addr) (c:Nat),k<=kids.length/\v=.slice a k c/\i=.int .i64 k/\wr.ownsRow B 9 1 (.slice a k c) k (ke (T.take k))/\Below B w wr/\B<=wr.heap.size) (fun _ _ i _=>kids.length-(intOf i).toNat)
 case atStart=>exact⟨0,none,0,by omega,rfl,rfl,⟨by simp[ke],.inl ⟨rfl,rfl⟩⟩,Below.refl _ _,Nat.le_of_eq F.out⟩
 case round=>
  obtain⟨k,a,c,hk,rfl,rfl,m,j,A⟩:=hrel
  by_cases o:k < kids.length
  ·obtain⟨kb,ko,rfl⟩:=z (fun h=>by rw[h] at o;simp at o)
   obtain⟨y,J⟩:=xb F.out j;obtain⟨v0,v1,v2,v3,v4,v5,Q,R,S,U,V,W,E⟩:=(HK.out.ovr y).el k kb ko o rfl;rw[<-J] at Q R S U V W E;obtain⟨kv,l,nm,n,f,ah,aj,Z,rfl,rfl,rfl,rfl,rfl,rfl⟩:=E.shape;have HY:=lh J;clear J;clear z;have D:ke (T.take (k+1))=ke (T.take k)++[.string ⟨(T.getD k []).toArray⟩]:=by
    rw[lts (by rw[t.out];exact o)];unfold ke;rw[List.map_append,lgd,lge (by rw[t.out];exact o)]
    rfl
   have P:=lh D;clear D
   go_wp2_with fail
   refine(G.out k o _ _ (by rw[yb];exact E.ovr _)).mono ?_;rintro e w1 ⟨rfl,x,rfl⟩;rw[yb,yd];generalize Xt.mk _ _=O;have d:=yab m O;obtain⟨g,s⟩:=ku j A O;generalize ovr wr O=N at d g s |-;generalize T.getD k []=tk at P |-;clear m j A Q R S U V W E HY
   go_wp2_with(at_builtin;refine wpList_append_own _ rfl _ _ 66 rfl B 9 i0 (.string ⟨#[]⟩) 1 16 Tryz.underlying66 hi K L M rfl (by decide) _ _ _ rfl (d.alloc _) ⟨N.heap.size,0,none⟩ 1 1 [.string ⟨tk.toArray⟩] rfl rfl ?c1 ?c2 ?c3 ?c4 ?c5 ?_)
   case c1=>exact cell_one_new _ _ _
   case c2=>simp[Value.oneCell']
   case c3=>unfold maxLen;omega
   case c4=>omega
   case c5=>simp;omega
   intro v' w2 q p _;obtain⟨u,C⟩:=xe g s d p;have r:w2.ownsRow B 9 1 v' (k+1) (ke (T.take (k+1))):=by rw[P.out];simpa using q
   obtain⟨a',c',rfl,-,-,-⟩:=zq r;clear q p d g s;go_wp2
   go_roundw
   case rel=>exact⟨k+1,a',c',by omega,rfl,by go_num,r,u,C⟩
   case measure=>simp[intOf];omega
  ·obtain rfl:k=kids.length:=by omega
   have H:T.take kids.length=T:=by rw[List.take_of_length_le (by rw[t.out];exact Nat.le_refl _)]
   rw[H] at m;have hS:=yd0 m t.out.symm;go_wp2;go_ret;obtain⟨x,D⟩:=xb F.out j;exact⟨_,x,rfl,D,hS⟩
def ymm (b:Nat)(t:ya)(x:List UInt8):Prop:=
 (t.kind=19/\t.num<=b/\x=zc t.num b)\/((t.kind=20\/t.kind=21)/\(t.kind=20->t.letter=99->t.num<=255)/\x=yeb t)\/(1<=t.kind/\t.kind<=16/\gb b t x)
theorem yg.kv {w:World}{t:ya}{v0 v1 v2 v3 v4 v5:Value}(h:yg w t (.agg #[v0,v1,v2,v3,v4,v5]))(b:1<=t.kind) :
  ∃ (nm:List UInt8) (ao:Option Addr) (ln cap:Nat),v0=.int .i64 (t.kind:Int)/\v1=.int .u8 t.letter.toNat/\v2=.string ⟨nm.toArray⟩/\v3=.int .u64 t.num/\v4=.bool t.flag/\v5=.slice ao ln cap:=by
 cases h with
 | mk a c d e f g i j=>
  rcases a with⟨a,_⟩|⟨a,_⟩
  ·exact⟨_,_,_,_,by rw[a];rfl,rfl,rfl,rfl,rfl,rfl⟩
  ·simp only[ya.kind] at b;omega
theorem yiv {w:World}{ao:Option Addr}{cap b:Nat}{kids:List ya}{T:List (List UInt8)}(hK:qz w ao cap kids)(hT:T.length=kids.length)(au:kids.length<=1000)(ht:∀ i,i < kids.length->ymm b (kids.getD i .zero) (T.getD i []))(af:b<=20) :
  Calls Tryz.prog 50 #[.slice ao kids.length cap,.int .i64 b] w fun e w'=>∃ v x,e=.returned v/\w'=ovr w x/\ydz w' v T/\w'.ownsRow w.heap.size 9 1 v kids.length (ke T):=by
 obtain⟨i0,hi,I,J,K⟩:=info_parts Tryz.infoStr;obtain⟨B,hB⟩:∃ B,B=w.heap.size:=⟨_,rfl⟩;have HB:Hid (B=w.heap.size):=hB;have F:=lh hT;have ae:=lh ht;have HK:=lh hK;have ar:=hK.c1;have ai:=hK.c2;have aa:=hK.nn;unfold maxLen at ai;clear hB hT ht hK
 go_enter Tryz.func50,Tryz.ntmps50
 go_wp2
 go_loopw [5,7,10] (fun v v7 i wr=>∃ (k:Nat) (a:Option Addr) (c:Nat),k<=kids.length/\v=.slice a k c/\i=.int .i64 k/\wr.ownsRow B 9 1 (.slice a k c) k (ke (T.take k))/\Below B w wr/\B<=wr.heap.size) (fun _ _ i _=>kids.length-(intOf i).toNat)
 case atStart=>exact⟨0,none,0,by omega,rfl,rfl,⟨by simp[ke],.inl ⟨rfl,rfl⟩⟩,Below.refl _ _,Nat.le_of_eq HB.out⟩
 case round=>
  obtain⟨k,a,c,hk,rfl,rfl,o,p,s⟩:=hrel
  by_cases D:k < kids.length
  ·obtain⟨kb,ko,rfl⟩:=aa (fun h=>by rw[h] at D;simp at D)
   obtain⟨y,hy⟩:=xb HB.out p;obtain⟨v0,v1,v2,v3,v4,v5,G,S,U,V,W,X,u⟩:=(HK.out.ovr y).el k kb ko D rfl;rw[<-hy] at G S U V W X u;have hA:=ae.out k D;have Z:1<=(kids.getD k .zero).kind:=by rcases hA with⟨h,_⟩|⟨h|h,_⟩|⟨h,_⟩<;>omega
   obtain⟨nm,av,ax,an,rfl,rfl,rfl,rfl,rfl,rfl⟩:=u.kv Z;generalize kids.getD k .zero=Y at hA Z u G S U V W X;have HY:=lh hy;clear hy;clear aa;have hx:ke (T.take (k+1))=ke (T.take k)++[.string ⟨(T.getD k []).toArray⟩]:=by
    rw[lts (by rw[F.out];exact D)];unfold ke;rw[List.map_append,lgd,lge (by rw[F.out];exact D)]
    rfl
   have L:=lh hx;clear hx
   rcases hA with⟨C,H,g3⟩|⟨C,H,g3⟩|⟨C,H,g3⟩
   ·have E:=fun w=>yad (w:=w) (n:=Y.num) (b:=b) H af
    rw[<-g3] at E;rw[C] at G u
    go_wp2_with fail
    refine(E _).mono ?_;clear E C H g3;rintro e w1 ⟨rfl,x,rfl⟩;rw[yb,yd];generalize Xt.mk _ _=A;have d:=yab o A;obtain⟨f,m⟩:=ku p s A;generalize ovr wr A=z at d f m |-;generalize T.getD k []=O at L |-;clear o p s G S U V W X u HY
    go_wp2_with(at_builtin;refine wpList_append_own _ rfl _ _ 66 rfl B 9 i0 (.string ⟨#[]⟩) 1 16 Tryz.underlying66 hi I J K rfl (by decide) _ _ _ rfl (d.alloc _) ⟨z.heap.size,0,none⟩ 1 1 [.string ⟨O.toArray⟩] rfl rfl ?c1 ?c2 ?c3 ?c4 ?c5 ?_)
    case c1=>exact cell_one_new _ _ _
    case c2=>simp[Value.oneCell']
    case c3=>unfold maxLen;omega
    case c4=>omega
    case c5=>simp;omega
    intro Q R j g _;obtain⟨q,r⟩:=xe f m d g;have l:R.ownsRow B 9 1 Q (k+1) (ke (T.take (k+1))):=by rw[L.out];simpa using j
    obtain⟨M,N,rfl,-,-,-⟩:=zq l;clear j g d f m;go_wp2
    go_roundw
    case rel=>exact⟨k+1,M,N,by omega,rfl,by go_num,l,q,r⟩
    case measure=>simp[intOf];omega
   ·rcases C with C|C
    ·have E:=fun w v h=>ydk (w:=w) (t:=Y) (v:=v) h (.inl C) H
     rw[<-g3] at E;have P:=u;rw[C] at G u
     go_wp2_with fail
     refine(E _ _ (by rw[yb];exact u.ovr _)).mono ?_;clear E C H g3 P;rintro e w1 ⟨rfl,x,rfl⟩;rw[yb,yd];generalize Xt.mk _ _=A;have d:=yab o A;obtain⟨f,m⟩:=ku p s A;generalize ovr wr A=z at d f m |-;generalize T.getD k []=O at L |-;clear o p s G S U V W X u HY
     go_wp2_with(at_builtin;refine wpList_append_own _ rfl _ _ 66 rfl B 9 i0 (.string ⟨#[]⟩) 1 16 Tryz.underlying66 hi I J K rfl (by decide) _ _ _ rfl (d.alloc _) ⟨z.heap.size,0,none⟩ 1 1 [.string ⟨O.toArray⟩] rfl rfl ?c1 ?c2 ?c3 ?c4 ?c5 ?_)
     case c1=>exact cell_one_new _ _ _
     case c2=>simp[Value.oneCell']
     case c3=>unfold maxLen;omega
     case c4=>omega
     case c5=>simp;omega
     intro Q R j g _;obtain⟨q,r⟩:=xe f m d g;have l:R.ownsRow B 9 1 Q (k+1) (ke (T.take (k+1))):=by rw[L.out];simpa using j
     obtain⟨M,N,rfl,-,-,-⟩:=zq l;clear j g d f m;go_wp2
     go_roundw
     case rel=>exact⟨k+1,M,N,by omega,rfl,by go_num,l,q,r⟩
     case measure=>simp[intOf];omega
    ·have E:=fun w v h=>ydk (w:=w) (t:=Y) (v:=v) h (.inr C) H
     rw[<-g3] at E;have P:=u;rw[C] at G u
     go_wp2_with fail
     refine(E _ _ (by rw[yb];exact u.ovr _)).mono ?_;clear E C H g3 P;rintro e w1 ⟨rfl,x,rfl⟩;rw[yb,yd];generalize Xt.mk _ _=A;have d:=yab o A;obtain⟨f,m⟩:=ku p s A;generalize ovr wr A=z at d f m |-;generalize T.getD k []=O at L |-;clear o p s G S U V W X u HY
     go_wp2_with(at_builtin;refine wpList_append_own _ rfl _ _ 66 rfl B 9 i0 (.string ⟨#[]⟩) 1 16 Tryz.underlying66 hi I J K rfl (by decide) _ _ _ rfl (d.alloc _) ⟨z.heap.size,0,none⟩ 1 1 [.string ⟨O.toArray⟩] rfl rfl ?c1 ?c2 ?c3 ?c4 ?c5 ?_)
     case c1=>exact cell_one_new _ _ _
     case c2=>simp[Value.oneCell']
     case c3=>unfold maxLen;omega
     case c4=>omega
     case c5=>simp;omega
     intro Q R j g _;obtain⟨q,r⟩:=xe f m d g;have l:R.ownsRow B 9 1 Q (k+1) (ke (T.take (k+1))):=by rw[L.out];simpa using j
     obtain⟨M,N,rfl,-,-,-⟩:=zq l;clear j g d f m;go_wp2
     go_roundw
     case rel=>exact⟨k+1,M,N,by omega,rfl,by go_num,l,q,r⟩
     case measure=>simp[intOf];omega
   ·have q1:((Y.kind:Int) == 19)=false:=by simp;omega
    have q2:((Y.kind:Int) == 20)=false:=by simp;omega
    have q3:((Y.kind:Int) == 21)=false:=by simp;omega
    go_wp2_with fail
    refine(g3 _ _ (by rw[yb];exact u.ovr _)).mono ?_;clear g3 C H q1 q2 q3;rintro e w1 ⟨rfl,x,rfl⟩;rw[yb,yd];generalize Xt.mk _ _=A;have d:=yab o A;obtain⟨f,m⟩:=ku p s A;generalize ovr wr A=z at d f m |-;generalize T.getD k []=O at L |-;clear o p s G S U V W X u HY
    go_wp2_with(at_builtin;refine wpList_append_own _ rfl _ _ 66 rfl B 9 i0 (.string ⟨#[]⟩) 1 16 Tryz.underlying66 hi I J K rfl (by decide) _ _ _ rfl (d.alloc _) ⟨z.heap.size,0,none⟩ 1 1 [.string ⟨O.toArray⟩] rfl rfl ?c1 ?c2 ?c3 ?c4 ?c5 ?_)
    case c1=>exact cell_one_new _ _ _
    case c2=>simp[Value.oneCell']
    case c3=>unfold maxLen;omega
    case c4=>omega
    case c5=>simp;omega
    intro Q R j g _;obtain⟨q,r⟩:=xe f m d g;have l:R.ownsRow B 9 1 Q (k+1) (ke (T.take (k+1))):=by rw[L.out];simpa using j
    obtain⟨M,N,rfl,-,-,-⟩:=zq l;clear j g d f m;go_wp2
    go_roundw
    case rel=>exact⟨k+1,M,N,by omega,rfl,by go_num,l,q,r⟩
    case measure=>simp[intOf];omega
  ·obtain rfl:k=kids.length:=by omega
   have ah:T.take kids.length=T:=by rw[List.take_of_length_le (by rw[F.out];exact Nat.le_refl _)]
   rw[ah] at o;have hS:=yd0 o F.out.symm;go_wp2;go_ret;obtain⟨x,hx⟩:=xb HB.out p;exact⟨_,x,rfl,hx,hS,HB.out▸o⟩
theorem yd2 {w:World}{ao:Option Addr}{cap b:Nat}{kids:List ya}{T:List (List UInt8)}(hK:qz w ao cap kids)(h:T.length=kids.length)(c:kids.length<=1000)(j:∀ i,i < kids.length->ymm b (kids.getD i .zero) (T.getD i []))(a:b<=20) :
  Calls Tryz.prog 50 #[.slice ao kids.length cap,.int .i64 b] w fun e w'=>∃ v x,e=.returned v/\w'=ovr w x/\ydz w' v T:=
 (yiv hK h c j a).mono fun _ _ ⟨v,x,d,f,g,_⟩=>⟨v,x,d,f,g⟩
end Go.Proofs.YtfckcdbpiepchaaGreatDoor
