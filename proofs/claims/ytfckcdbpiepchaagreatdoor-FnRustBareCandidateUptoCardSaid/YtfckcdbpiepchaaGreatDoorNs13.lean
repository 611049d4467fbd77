import Derived.Test.YtfckcdbpiepchaaGreatDoorNs12
namespace Go.Proofs.YtfckcdbpiepchaaGreatDoor
open Go.RowKit
set_option maxRecDepth 100000
set_option maxHeartbeats 8000000
set_option linter.all false
def ydb (n:Nat):UInt8:=if n < 10 then UInt8.ofNat (48+n) else if n < 36 then UInt8.ofNat (87+n) else UInt8.ofNat (29+n)
def ya5 (n:Nat):List UInt8:=if n < 62 then [ydb n] else ya5 (n / 62)++[ydb (n % 62)]
termination_by n
decreasing_by omega
def jd (n:Nat):List UInt8:=if n=0 then [95] else ya5 (n-1)++[95]
def yhc (n:Nat):UInt8:=if n < 10 then UInt8.ofNat (48+n) else UInt8.ofNat (87+n)
def qi (n:Nat):List UInt8:=if n < 16 then [yhc n] else qi (n / 16)++[yhc (n % 16)]
termination_by n
decreasing_by omega
def jf (n:Nat):List UInt8:=if n=0 then [] else 115::jd (n-1)
def vc (n:Nat):List UInt8:=if n=0 then [] else 71::jd (n-1)
def j9 (l:List UInt8):List UInt8:=Lib.decDigits l.length++(if kt (l.headD 0)=true\/l.headD 0=95 then [95] else [])++l
def dlt (delta:Nat)(bias:Int)(place:Nat)(fuel:Nat):List UInt8:=
 match fuel with
 | 0=>[]
 | f+1=>
  let t:=(thr place bias).toNat
  if delta < t then [if delta < 26 then UInt8.ofNat (97+delta) else UInt8.ofNat (22+delta)]
  else
   let g:=t+(delta-t) % (36-t)
   (if g < 26 then UInt8.ofNat (97+g) else UInt8.ofNat (22+g))::dlt ((delta-t) / (36-t)) bias (place+1) f
structure PS where
 text:List UInt8
 many:Nat
 delta:Nat
 bias:Int
 first:Bool
def zg (now c:Int)(p:PS):PS:=
 let p1:=if c < now then { p with delta:=p.delta+1 } else p
 if c=now then { text:=p1.text++dlt p1.delta p1.bias 1 (p1.delta+1),many:=p1.many+1,delta:=0,bias:=ybd p1.delta (p1.many+1) p1.first,first:=false } else p1
def yd5 (now:Int)(l:List Int):Option Int:=(l.filter fun c=>decide (now<=c)).min?
def qk (l:List Int):Nat->Int->PS->PS
 | 0,_,p=>p
 | f+1,now,p=>
  match yd5 now l with
  | none=>p
  | some next=>
   let p1:={ p with delta:=p.delta+(next-now).toNat*(p.many+1) }
   let p2:=l.foldl (fun p c=>zg next c p) p1
   qk l f (next+1) { p2 with delta:=p2.delta+1 }
def ye4 (l:List Int):List UInt8:=
 let low:=(l.filter fun c=>decide (c < 128)).map fun c=>UInt8.ofNat c.toNat
 (qk l l.length 128 { text:=low++(if low=[] then [] else [95]),many:=low.length,delta:=0,bias:=72,first:=true }).text
def vr (nm:List UInt8):List UInt8:=
 if nm=[] then [48,95] else if nm.all yr then j9 nm else 117::j9 (ye4 ((ga nm).getD []))
def qs (nm:List UInt8):List UInt8:=if nm=[67] then [67] else vr (nm.map fun c=>if c=45 then 95 else c)
structure Bd where
 at_:Nat
 all:Nat
structure Bk where
 at_:Nat
 to_:Nat
 bound:Nat
structure WS where
 out:List UInt8
 texts:List (List UInt8)
 marks:List Nat
 used:Nat
 empty:Bool
 bound:Nat
 bounds:List Bd
 backs:List Bk
def WS.zero:WS:=⟨[],[],[],0,false,0,[],[]⟩
def WS.put (w:WS):List UInt8->WS
 | []=>w
 | c::r=>{ w with out:=w.out++((if w.empty&&(c == 95||kt c) then [95] else [])++(c::r)),empty:=false }
def WS.nm (w:WS)(n:List UInt8):WS:=if n=[] then { w.put [48] with empty:=true } else w.put (vr n)
def WS.bind (w:WS)(n:Nat):WS:=
 let w1:=w.put (vc n)
 if n=0 then w1 else { w1 with bound:=w1.bound+n,bounds:=w1.bounds++[⟨w1.out.length,w1.bound+n⟩] }
def zk (k:Nat):UInt8:=if k=8 then 65 else if k=9 then 83 else if k=10 then 84 else if k=11 then 82 else if k=12 then 81 else if k=13 then 80 else 79
def vb (pc:ya->WS->WS)(t:ya)(w:WS):WS:=
 if t.kind=19 then w.put (76::jd t.num) else if t.kind=20\/t.kind=21 then pc t (w.put [75]) else pc t w
def ya6 (pc2:ya->WS->WS)(w:WS)(t:ya):WS:=pc2 (t.kids.getD 0 .zero) (w.put (112::vr t.name))
def wBd (pc1 pc2:ya->WS->WS)(t:ya)(w:WS):WS:=t.kids.tail.foldl (ya6 pc2) (pc1 (t.kids.getD 0 .zero) w)
def yc (pc:Nat->ya->WS->WS)(t:ya)(w:WS):WS:=
 if t.kind=1 then(w.put (67::jf t.num)).nm t.name
 else if t.kind=2 then t.kids.foldl (fun w t=>pc 0 t w) (w.put (77::jf t.num))
 else if t.kind=3 then t.kids.foldl (fun w t=>pc 0 t w) (w.put (88::jf t.num))
 else if t.kind=4 then t.kids.foldl (fun w t=>pc 0 t w) (w.put [89])
 else if t.kind=5 then((pc 0 (t.kids.getD 0 .zero) (w.put [78,t.letter])).put (jf t.num)).nm t.name
 else if t.kind=6 then(t.kids.tail.foldl (fun w t=>vb (pc 0) t w) (pc 0 (t.kids.getD 0 .zero) (w.put [73]))).put [69]
 else if t.kind=7 then w.put [t.letter]
 else if t.kind<=14 then
  let w1:=w.put [zk t.kind]
  let w2:=if 0 < t.num/\(t.kind=11\/t.kind=12) then w1.put (76::jd t.num) else w1
  let w3:=t.kids.foldl (fun w t=>pc 0 t w) w2
  if t.kind=10 then w3.put [69] else w3
 else if t.kind=20 then
  let w1:=w.put [t.letter]
  let w2:=if t.flag then w1.put [110] else w1
  w2.put (qi t.num++[95])
 else if t.kind=21 then w.put [112]
 else if t.kind=15 then
  let w1:=(w.put [70]).bind t.num
  let w2:=if t.flag then w1.put [85] else w1
  let w3:=if t.name=[] then w2 else w2.put (75::qs t.name)
  let w4:=(t.kids.dropLast.foldl (fun w t=>pc 0 t w) w3).put [69]
  let w5:=pc 0 (t.kids.getLastD .zero) w4
  { w5 with bound:=w5.bound-t.num }
 else
  let w1:=(w.put [68]).bind t.num
  let w2:=t.kids.dropLast.foldl (fun w t=>wBd (pc 1) (pc 2) t w) w1
  vb (pc 0) (t.kids.getLastD .zero) ({ w2 with bound:=w2.bound-t.num }.put [69])
def wPl:Nat->ya->WS->WS
 | 0,_,w=>w
 | d+1,t,w=>yc (fun j t w=>wPl (d-j) t w) t w
termination_by d=>d
decreasing_by omega
def ybg (how:List Int)(u:Nat):Bool:=decide (how≠[])&&decide (how.getD (u % how.length) 0 % 2≠0)
def zr (how:List Int)(u:List UInt8):List (List UInt8×Nat)->Nat->Option Nat×Nat
 | [],n=>(none,n)
 | (b,m)::r,n=>
  if b=u/\1 < u.length then(if how=[] then zr how u r n else if ybg how n then(some m,n+1) else zr how u r (n+1)) else zr how u r n
def wGo (pl:Bool)(how:List Int):Nat->ya->WS->WS
 | 0,_,w=>w
 | d+1,t,w=>
  if pl=true then yc (fun j t w=>wGo pl how (d-j) t w) t w
  else
   let u:=(wPl (d+1) t .zero).out
   let fb:=zr how u (w.texts.zip w.marks) w.used
   match fb.1 with
   | some m=>({ w with used:=fb.2,backs:=w.backs++[⟨w.out.length,m,w.bound⟩] } : WS).put (66::jd m)
   | none=>
    let w1:=yc (fun j t w=>wGo pl how (d-j) t w) t { w with used:=fb.2 }
    { w1 with texts:=w1.texts++[u],marks:=w1.marks++[w.out.length] }
termination_by d=>d
decreasing_by all_goals omega
theorem ygv (how:List Int):∀ d t w,wGo true how d t w=wPl d t w:=by
 intro d
 induction d using Nat.strongRecOn with
 | _ d a=>
  intro t w
  cases d with
  | zero=>rw[wGo,wPl]
  | succ d=>
   rw[wGo,if_pos rfl,wPl]
   congr 1
   funext j t w
   exact a (d-j) (by omega) t w
structure Ext (w v:WS):Prop where
 o:w.out <+: v.out
 t:w.texts <+: v.texts
 m:w.marks <+: v.marks
 b:w.bounds <+: v.bounds
 k:w.backs <+: v.backs
theorem Ext.refl (w:WS):Ext w w:=⟨List.prefix_rfl,List.prefix_rfl,List.prefix_rfl,List.prefix_rfl,List.prefix_rfl⟩
theorem Ext.trans {u v w:WS}(h:Ext u v)(k:Ext v w):Ext u w:=⟨h.o.trans k.o,h.t.trans k.t,h.m.trans k.m,h.b.trans k.b,h.k.trans k.k⟩
theorem yj (w:WS)(t:List UInt8):Ext w (w.put t):=by
 cases t with
 | nil=>exact .refl w
 | cons c r=>exact⟨List.prefix_append _ _,List.prefix_rfl,List.prefix_rfl,List.prefix_rfl,List.prefix_rfl⟩
theorem yau (w:WS)(n:List UInt8):Ext w (w.nm n):=by
 unfold WS.nm
 split
 ·exact⟨(yj w [48]).o,(yj w [48]).t,(yj w [48]).m,(yj w [48]).b,(yj w [48]).k⟩
 ·exact yj _ _
theorem ya1 (w:WS)(n:Nat):Ext w (w.bind n):=by
 unfold WS.bind;dsimp only;have h:=yj w (vc n)
 split
 ·exact h
 ·exact⟨h.o,h.t,h.m,h.b.trans (List.prefix_append _ _),h.k⟩
theorem yep (w:WS)(n:Nat):Ext w { w with bound:=n }:=⟨List.prefix_rfl,List.prefix_rfl,List.prefix_rfl,List.prefix_rfl,List.prefix_rfl⟩
theorem j8 {w a b:WS}{c:Prop} [Decidable c] (h:Ext w a) (k:Ext w b):Ext w (if c then a else b):=by
 split
 ·exact h
 ·exact k
theorem yds {f:WS->ya->WS}(a:∀ w t,Ext w (f w t)):∀ (l:List ya) (w:WS),Ext w (l.foldl f w)
 | [],w=>.refl w
 | t::l,w=>(a w t).trans (yds a l _)
theorem you {a:ya->WS->WS}(h:∀ t w,Ext w (a t w))(t:ya)(w:WS):Ext w (vb a t w):=by
 unfold vb
 split
 ·exact yj _ _
 ·split
  ·exact(yj _ _).trans (h _ _)
  ·exact h _ _
theorem yp1 {c:Nat->ya->WS->WS}(h:∀ j t w,Ext w (c j t w))(t:ya)(w:WS):Ext w (yc c t w):=by
 have a:∀ (l:List ya) (w:WS),Ext w (l.foldl (fun w t=>c 0 t w) w):=yds fun w t=>h 0 t w;unfold yc;refine j8 ((yj _ _).trans (yau _ _)) ?_;refine j8 ((yj _ _).trans (a _ _)) ?_;refine j8 ((yj _ _).trans (a _ _)) ?_;refine j8 ((yj _ _).trans (a _ _)) ?_;refine j8 ((((yj _ _).trans (h _ _ _)).trans (yj _ _)).trans (yau _ _)) ?_;refine j8 ((((yj _ _).trans (h _ _ _)).trans (yds (fun w t=>you (h 0) t w) _ _)).trans (yj _ _)) ?_;refine j8 (yj _ _) ?_;have e:Ext w (if 0 < t.num/\(t.kind=11\/t.kind=12) then(w.put [zk t.kind]).put (76::jd t.num) else w.put [zk t.kind]):=j8 ((yj _ _).trans (yj _ _)) (yj _ _);refine j8 (j8 ((e.trans (a _ _)).trans (yj _ _)) (e.trans (a _ _))) ?_;have f:Ext w (if t.flag=true then(w.put [t.letter]).put [110] else w.put [t.letter]):=j8 ((yj _ _).trans (yj _ _)) (yj _ _);refine j8 (f.trans (yj _ _)) ?_;refine j8 (yj _ _) ?_;have d:Ext w ((w.put [70]).bind t.num):=(yj _ _).trans (ya1 _ _);have g:Ext w (if t.flag=true then((w.put [70]).bind t.num).put [85] else(w.put [70]).bind t.num):=j8 (d.trans (yj _ _)) d;have i:∀ b,Ext w b->Ext w (if t.name=[] then b else b.put (75::qs t.name)):=fun b h=>j8 h (h.trans (yj _ _));refine j8 (((((i _ g).trans (a _ _)).trans (yj _ _)).trans (h _ _ _)).trans (yep _ _)) ?_;exact((((((yj _ _).trans (ya1 _ _)).trans (yds (fun w t=>(h 1 _ _).trans (yds (fun w t=>(yj _ _).trans (h 2 _ _)) _ _)) _ _)).trans (yep _ _)).trans (yj _ _)).trans (you (h 0) _ _))
theorem ys8 (pl:Bool)(how:List Int):∀ d t w,Ext w (wGo pl how d t w):=by
 intro d
 induction d using Nat.strongRecOn with
 | _ d e=>
  intro t w
  cases d with
  | zero=>rw[wGo];exact .refl w
  | succ d=>
   rw[wGo];have c:∀ w,Ext w (yc (fun j t w=>wGo pl how (d-j) t w) t w):=yp1 (fun j t w=>e (d-j) (by omega) t w) t;refine j8 (c w) ?_;dsimp only
   cases f:(zr how (wPl (d+1) t .zero).out (w.texts.zip w.marks) w.used).1 with
   | some m=>exact(show Ext w ({ w with used:=_,backs:=w.backs++[_] } : WS) from⟨List.prefix_rfl,List.prefix_rfl,List.prefix_rfl,List.prefix_rfl,List.prefix_append _ _⟩).trans (yj _ _)
   | none=>
    have a:=c ({ w with used:=(zr how (wPl (d+1) t .zero).out (w.texts.zip w.marks) w.used).2 } : WS);exact⟨a.o,a.t.trans (List.prefix_append _ _),a.m.trans (List.prefix_append _ _),a.b,a.k⟩
theorem yki (n:Nat)(h:n < 62):d62 ((ydb n).toNat:Int)=n/\((ydb n).toNat:Int)≠95:=by
 have:∀ k:Nat,k < 62->d62 ((ydb k).toNat:Int)=k/\((ydb k).toNat:Int)≠95:=by decide
 exact this n h
theorem yx4:∀ (m:Nat)(r:List UInt8),m<=4611686018427387904->p62 (ya5 m++r) 0=p62 r m:=by
 intro m
 induction m using Nat.strongRecOn with
 | _ m d=>
  intro r e;rw[ya5]
  split
  ·rename_i h
   obtain⟨a,b⟩:=yki m h;rw[List.singleton_append,p62,if_neg b,a,if_neg (by omega)];rw[yfo (x:=0*62) (by omega) (by omega),yfo (by omega) (by omega)];simp
  ·rename_i h
   obtain⟨a,b⟩:=yki (m % 62) (Nat.mod_lt _ (by omega));rw[List.append_assoc,d (m / 62) (by omega) _ (by omega),List.singleton_append,p62,if_neg b,a,if_neg (by omega)];have c:wrap64 (((m / 62:Nat):Int)*62)=((m / 62:Nat):Int)*62:=yfo (by omega) (by omega);rw[c,yfo (by omega) (by omega)]
   congr 1
   omega
theorem ynv (m:Nat):∃ c r,ya5 m=c::r/\c≠95:=by
 induction m using Nat.strongRecOn with
 | _ m d=>
  rw[ya5]
  split
  ·rename_i h
   exact⟨_,[],rfl,fun a=>(yki m h).2 (by rw[a];rfl)⟩
  ·obtain⟨c,r,a,b⟩:=d (m / 62) (by omega)
   exact⟨c,r++[ydb (m % 62)],by rw[a];rfl,b⟩
theorem yjn (n:Nat)(r:List UInt8)(e:n<=4611686018427387904):b62 (jd n++r)=some ((n:Int),r):=by
 unfold jd b62
 by_cases a:n=0
 ·subst a;rfl
 ·rw[if_neg a]
  obtain⟨c,x,b,d⟩:=ynv (n-1);rw[if_neg (by rw[b];simpa using d),List.append_assoc,yx4 _ _ (by omega),List.singleton_append,p62,if_pos (by rfl),yfo (by omega) (by omega)]
  congr 2
  omega
theorem ynl (n:Nat)(r:List UInt8)(b:n<=4611686018427387904)(hr:n=0->r.head?≠some 115):ybf (jf n++r)=some ((n:Int),r):=by
 unfold jf ybf
 by_cases a:n=0
 ·rw[if_pos a,List.nil_append,if_neg (hr a),a];rfl
 ·rw[if_neg a,List.cons_append,if_pos (by rfl),List.tail_cons,yjn _ _ (by omega),Option.map_some,yfo (by omega) (by omega)]
  congr 2
  omega
theorem yi6 (n:Nat)(h:n < 16):gu ((yhc n).toNat:Int)=n/\yhc n≠95:=by
 have:∀ k:Nat,k < 16->gu ((yhc k).toNat:Int)=k/\yhc k≠95:=by decide
 exact this n h
theorem yyf:∀ (n:Nat)(r:List UInt8),1<=n->n < 18446744073709551616->j5 (qi n++r) 0 0=j5 r (qi n).length n:=by
 intro n
 induction n using Nat.strongRecOn with
 | _ n c=>
  intro r d e;rw[qi]
  split
  ·rename_i h
   obtain⟨a,b⟩:=yi6 n h;rw[List.singleton_append,j5,if_neg b,a,if_neg (by omega),if_neg (by omega)]
   congr 1
   omega
  ·rename_i h
   obtain⟨a,b⟩:=yi6 (n % 16) (Nat.mod_lt _ (by omega));rw[List.append_assoc,c (n / 16) (by omega) _ (by omega) (by omega),List.singleton_append,j5,if_neg b,a,if_neg (by omega),if_neg (by omega)]
   congr 1
   ·rw[List.length_append];rfl
   ·omega
theorem yi5:∀ (k n:Nat),n < 16 ^ (k+1)->(qi n).length<=k+1
 | 0,n,h=>by rw[qi,if_pos (by simpa using h)];simp
 | k+1,n,h=>by
  rw[qi]
  split
  ·simp
  ·have:=yi5 k (n / 16) (by rw[Nat.div_lt_iff_lt_mul (by omega),<-Nat.pow_succ];exact h)
   rw[List.length_append,List.length_singleton];omega
theorem ylp (n:Nat):1<=(qi n).length:=by rw[qi];split<;>simp
theorem ywl (n:Nat)(r:List UInt8)(b:n < 18446744073709551616):j5 (qi n++95::r) 0 0=some ((qi n).length,n,r):=by
 by_cases a:n=0
 ·subst a
  rw[show qi 0=[48] by rw[qi];rfl]
  rfl
 ·rw[yyf n _ (by omega) b,j5,if_pos rfl]
theorem yiy (n:Nat):∀ (r:List UInt8),n<=100000000->ye5 (Lib.decDigits n++r) 0=ye5 r n:=by
 induction n using Nat.strongRecOn with
 | _ n c=>
  intro r d;have hd:∀ k,k < 10->x7 ((UInt8.ofNat (48+k)).toNat:Int)=true/\((UInt8.ofNat (48+k)).toNat:Int)=48+(k:Int):=by decide
  rw[Lib.decDigits]
  split
  ·rename_i h
   obtain⟨a,b⟩:=hd n h;rw[List.singleton_append,ye5,if_pos a,b,if_neg (by omega)]
   congr 1;omega
  ·rename_i h
   obtain⟨a,b⟩:=hd (n % 10) (by omega);rw[List.append_assoc,c (n / 10) (by omega) _ (by omega),List.singleton_append,ye5,if_pos a,b,if_neg (by omega)]
   congr 1;omega
theorem yoy (n:Nat):∃ c r,Lib.decDigits n=c::r/\kt c=true:=by
 induction n using Nat.strongRecOn with
 | _ n d=>
  have hd:∀ k,k < 10->kt (UInt8.ofNat (48+k))=true:=by decide
  rw[Lib.decDigits]
  split
  ·rename_i h;exact⟨_,[],rfl,hd n h⟩
  ·obtain⟨c,r,a,b⟩:=d (n / 10) (by omega)
   exact⟨c,r++[UInt8.ofNat (48+n % 10)],by rw[a];rfl,b⟩
theorem yte (l r:List UInt8)(e:l≠[])(a:l.length<=100000000) :
  ∃ x,yfv (j9 l++r)=some ((l.length:Int),x)/\(if x.head? = some 95 then x.tail else x)=l++r:=by
 cases l with
 | nil=>exact absurd rfl e
 | cons c t=>
  obtain⟨c0,g,d,f⟩:=yoy (c::t).length;unfold j9 yfv;rw[if_neg (by rw[d];simp)]
  by_cases b:kt c=true\/c=95
  ·rw[if_pos (by simpa using b)]
   refine⟨95::((c::t)++r),?_,by rw[if_pos (by rfl)];rfl⟩;rw[List.append_assoc,List.append_assoc,yiy _ _ a]
   rfl
  ·rw[if_neg (by simpa using b)]
   refine⟨(c::t)++r,?_,by rw[if_neg (by simp;exact fun h=>b (.inr h))]⟩;rw[List.append_nil,List.append_assoc,yiy _ _ a,List.cons_append,ye5,if_neg (by rw[ye9];exact fun h=>b (.inl h))]
theorem yfj (l:List UInt8):∃ c r,j9 l=c::r/\kt c=true:=by
 obtain⟨c,r,a,b⟩:=yoy l.length;unfold j9;exact⟨c,_,by rw[a];rfl,b⟩
theorem yow {c:UInt8}(h:kt c=true):c≠117/\c≠115/\c≠67/\c≠95:=by
 refine⟨?_,?_,?_,?_⟩<;>rintro rfl<;>exact absurd h (by decide)
theorem ygy (l r:List UInt8)(i:l≠[])(a:l.length<=100000000)(b:l.all yr=true):vn (j9 l++r)=some (some (l,false,r)):=by
 obtain⟨c,t,d,e⟩:=yfj l;obtain⟨x,f,g⟩:=yte l r i a;unfold vn;have h:decide ((j9 l++r).head? = some 117)=false:=by rw[d];simpa using (yow e).1
 simp only[h,Bool.false_eq_true,if_false,f,g];rw[if_neg (by simp;omega),Int.toNat_natCast,List.take_left,if_neg (by rw[b];simp),List.drop_left];unfold ydg;rw[if_neg (by rw[b];simp),if_pos (by simp)]
theorem yo9 (l r t:List UInt8)(e:l≠[])(a:l.length<=100000000)(b:ydg l true=some t):vn (117::(j9 l++r))=some (some (t,true,r)):=by
 have f:=ymt b;obtain⟨x,c,d⟩:=yte l r e a;unfold vn;simp only[List.head?_cons,decide_true,if_true,List.tail_cons,c,d];rw[if_neg (by simp;omega),Int.toNat_natCast,List.take_left,if_neg (by rw[f];simp),List.drop_left,b]
theorem ymr (r:List UInt8)(hr:∀ c x,r=c::x->kt c=false):vn (48::r)=some (some ([],false,if r.head? = some 95 then r.tail else r)):=by
 have hd:yfv (48::r)=some (0,r):=by
  unfold yfv;rw[if_neg (by simp),ye5,if_pos (by decide),if_neg (by decide)]
  cases r with
  | nil=>rfl
  | cons c x=>rw[ye5,if_neg (by rw[ye9,hr c x rfl];simp)];rfl
 unfold vn;have a:decide ((48::r).head? = some (117:UInt8))=false:=by simp
 simp only[a,Bool.false_eq_true,if_false,hd];rw[if_neg (by omega)]
 rfl
theorem yqw {s p x:List UInt8}{lim:Nat}(h:p++x <+: s)(c:p.length+x.length<=lim):Vw s lim p.length=x++Vw s lim (p.length+x.length):=by
 obtain⟨y,rfl⟩:=h;unfold Vw;rw[List.take_append,List.take_append];have a:(p.take lim)=p:=List.take_of_length_le (by omega);have b:(x.take (lim-p.length))=x:=List.take_of_length_le (by omega);rw[a,b,List.append_assoc,List.drop_left]
 congr 1
 rw[<-List.append_assoc,<-List.length_append,List.drop_left]
theorem ybu {s p:List UInt8}{c:UInt8}{x:List UInt8}(h:p++c::x <+: s):s.getD p.length 0=c:=by
 obtain⟨y,rfl⟩:=h;rw[List.append_assoc,lgd,List.getElem?_append_right (Nat.le_refl _)];simp
def y8 (s:List UInt8)(lim:Nat)(w:WS):Nat:=if w.empty=true/\w.out.length < lim/\s.getD w.out.length 0=95 then w.out.length+1 else w.out.length
def Fl (s:List UInt8)(w:WS):Prop:=w.empty=true->kt (s.getD w.out.length 0)=false
theorem vq {s:List UInt8}{w v W:WS}{c:UInt8}{r:List UInt8}(k:W.out <+: s)(j:Ext v W)(l:v=w.put (c::r)){lim:Nat}(a:v.out.length<=lim) :
  Vw s lim (y8 s lim w)=c::(r++Vw s lim v.out.length)/\y8 s lim v=v.out.length/\w.out.length<=y8 s lim w:=by
 subst l;have b:=j.o.trans k;unfold WS.put at b a |-;dsimp only at b a |-;refine⟨?_,by unfold y8;rw[if_neg (by simp)],by unfold y8;split<;>omega⟩
 by_cases d:(w.empty&&(c == 95||kt c))=true
 ·rw[if_pos d] at b a |-
  rw[<-List.append_assoc] at b a |-;rw[List.length_append] at a |-;have e:=yqw b (lim:=lim) a;have f:s.getD w.out.length 0=95:=ybu (x:=c::r) (by simpa using b);have g:y8 s lim w=(w.out++[95]).length:=by
   unfold y8;rw[if_pos ⟨by rw[Bool.and_eq_true] at d;exact d.1,by simp at a;omega,f⟩];simp
  rw[g,e];rfl
 ·rw[if_neg d,List.nil_append] at b a |-
  rw[List.length_append] at a |-;have e:=yqw b (lim:=lim) a;have f:s.getD w.out.length 0=c:=ybu (x:=r) b;have g:y8 s lim w=w.out.length:=by
   unfold y8;rw[if_neg];rintro ⟨i,m,h⟩;rw[f] at h;exact d (by rw[i,h];rfl)
  rw[g,e];rfl
theorem ycx {s:List UInt8}{w W:WS}{c:UInt8}{r:List UInt8}(e:W.out <+: s) (d:Ext (w.put (c::r)) W):Fl s w:=by
 intro hw;have a:=d.o.trans e;unfold WS.put at a;dsimp only at a
 by_cases b:(w.empty&&(c == 95||kt c))=true
 ·rw[if_pos b] at a
  rw[ybu (x:=c::r) (by simpa using a)];decide
 ·rw[if_neg b,List.nil_append] at a
  rw[ybu (x:=r) a];rw[hw] at b
  cases hd:kt c with
  | false=>rfl
  | true=>exact absurd (by rw[hd];simp) b
theorem ya3 {s:List UInt8}{lim k:Nat}{c:UInt8}{x:List UInt8}(f:lim<=s.length)(h:Vw s lim k=c::x):Ch s lim k c/\Vw s lim (k+1)=x:=by
 have b:k < lim:=by
  rcases Nat.lt_or_ge k lim with a|a
  ·exact a
  ·rw[yh8 a] at h;cases h
 rw[yc8 f b] at h;obtain⟨d,e⟩:=List.cons.inj h;exact⟨⟨b,d⟩,e⟩
def xm:Prop:=∀ nm:List UInt8,zh nm=true->nm.all yr=false->ydg (ye4 ((ga nm).getD [])) true=some nm
theorem yd6 (nm:List UInt8):∃ c r,vr nm=c::r/\(kt c=true\/c=117):=by
 unfold vr
 split
 ·exact⟨48,[95],rfl,.inl (by decide)⟩
 ·split
  ·obtain⟨c,r,a,b⟩:=yfj nm
   exact⟨c,r,a,.inl b⟩
  ·exact⟨117,_,rfl,.inr rfl⟩
theorem yi1 {nm:List UInt8}(h:zh nm=true):nm≠[]:=(ycl h).ne
theorem yjv (f:xm)(nm r:List UInt8)(h:zh nm=true):∃ u,vn (vr nm++r)=some (some (nm,u,r)):=by
 have b:=yi1 h;have g:=(ycl h).le;unfold vr;rw[if_neg b]
 by_cases c:nm.all yr=true
 ·rw[if_pos c]
  exact⟨false,ygy nm r b (by omega) c⟩
 ·rw[if_neg c]
  have a:=f nm h (by simpa using c);have i:=yms a;refine⟨true,yo9 _ r nm (fun d=>?_) (by omega) a⟩;rw[d] at a;unfold ydg at a;rw[if_neg (by simp),if_neg (by simp)] at a
  split at a
  ·cases a
  ·rename_i e
   exact e (.inr rfl)
theorem yqy (nm r:List UInt8)(h:ybe nm=true)(j:nm≠[])(f:nm≠[67]) :
  ∃ z,vn (vr (nm.map fun c=>if c=45 then 95 else c)++r)=some (some (z,false,r))/\nm=(z.map fun c=>if c=95 then 45 else c)/\z.length<=20:=by
 have b:(∀ c∈nm,(97<=c.toNat/\c.toNat<=122)\/c=45\/kt c=true)/\nm.length<=20:=by
  cases nm with
  | nil=>exact absurd rfl j
  | cons c r=>
   unfold ybe at h;simp only[Bool.or_eq_true,beq_iff_eq,Bool.and_eq_true,decide_eq_true_eq] at h
   rcases h with h|⟨⟨a,k⟩,l⟩
   ·exact absurd h f
   ·refine⟨fun x i=>?_,l⟩
    rcases List.mem_cons.1 i with rfl|i
    ·unfold yc7 at a;simp at a;exact .inl a
    ·have:=List.all_eq_true.1 k x i
     unfold yc7 at this;simp only[Bool.or_eq_true,Bool.and_eq_true,beq_iff_eq,decide_eq_true_eq,Bool.not_false,true_and] at this;exact this
 refine⟨nm.map fun c=>if c=45 then 95 else c,?_,?_,by rw[List.length_map];exact b.2⟩
 ·have d:(nm.map fun c=>if c=45 then 95 else c)≠[]:=by simpa using j
  have e:(nm.map fun c=>if c=45 then(95:UInt8) else c).all yr=true:=by
   rw[List.all_map,List.all_eq_true];intro c g
   show yr (if c=45 then 95 else c)=true
   rcases b.1 c g with a|rfl|a
   ·rw[if_neg (by rintro rfl;exact absurd a.1 (by decide))]
    have:yba (c.toNat:Int)=true:=by unfold yba;simp;omega
    unfold yr;rw[this];simp
   ·decide
   ·rw[if_neg (by rintro rfl;exact absurd a (by decide))]
    unfold yr;rw[ye9,a];rfl
  unfold vr;rw[if_neg d,if_pos e];exact ygy _ r d (by rw[List.length_map];omega) e
 ·rw[List.map_map]
  conv=>lhs;rw[<-List.map_id nm]
  refine List.map_congr_left fun c g=>?_
  show c=if(if c=45 then(95:UInt8) else c)=95 then 45 else(if c=45 then 95 else c)
  rcases b.1 c g with a|rfl|a
  ·rw[if_neg (show ¬ c=45 by rintro rfl;exact absurd a.1 (by decide)),if_neg (by rintro rfl;exact absurd a.1 (by decide))]
  ·rfl
  ·rw[if_neg (show ¬ c=45 by rintro rfl;exact absurd a (by decide)),if_neg (by rintro rfl;exact absurd a (by decide))]
theorem yu9 (M:xm){s:List UInt8}{w v W:WS}{n:Nat}{nm:List UInt8}(J:W.out <+: s)(i:Ext v W) (y:v=(w.put (jf n)).nm nm) (O:n < 4611686018427387904) (I:nm=[]\/zh nm=true) (E:Fl s v) {lim:Nat} (G:lim<=s.length) (a:v.out.length<=lim) :
  idN (Vw s lim (y8 s lim w))=some (some ((n:Int),nm,Vw s lim (y8 s lim v)))/\y8 s lim v<=lim:=by
 have K:∀ u:WS,v=u.nm nm->(∃ q,vn (Vw s lim (y8 s lim u))=some (some (nm,q,Vw s lim (y8 s lim v))))/\y8 s lim v<=lim/\(Vw s lim (y8 s lim u)).head?≠some 115:=by
  intro u d;unfold WS.nm at d
  by_cases g:nm=[]
  ·rw[if_pos g] at d
   have l:Ext (u.put [48]) W:=⟨by have:=i.o;rw[d] at this;exact this,by have:=i.t;rw[d] at this;exact this,by have:=i.m;rw[d] at this;exact this,by have:=i.b;rw[d] at this;exact this,by have:=i.k;rw[d] at this;exact this⟩;have j:v.out.length=(u.put [48]).out.length:=by rw[d]
   obtain⟨p,D,-⟩:=vq J l rfl (lim:=lim) (by rw[<-j];exact a);rw[<-j,List.nil_append] at p;have C:v.empty=true:=by rw[d]
   rw[p];refine⟨⟨false,?_⟩,?_,by simp⟩
   ·rw[ymr]
    ·rw[g]
     rcases Nat.lt_or_ge v.out.length lim with e|e
     ·by_cases f:s.getD v.out.length 0=95
      ·have B:y8 s lim v=v.out.length+1:=by unfold y8;rw[if_pos ⟨C,e,f⟩]
       rw[B,yc8 G e,f]
       rfl
      ·have B:y8 s lim v=v.out.length:=by unfold y8;rw[if_neg (fun h=>f h.2.2)]
       have F:¬ (Vw s lim v.out.length).head? = some 95:=by rw[yc8 G e];simpa using f
       rw[B,if_neg F]
     ·have B:y8 s lim v=v.out.length:=by unfold y8;rw[if_neg (fun h=>by omega)]
      have F:¬ (Vw s lim v.out.length).head? = some 95:=by rw[yh8 e];simp
      rw[B,if_neg F]
    ·intro c x N
     obtain⟨L,-⟩:=ya3 G N;have:=E C;rw[L.2] at this;exact this
   ·unfold y8
    split
    ·omega
    ·exact a
  ·rw[if_neg g] at d
   obtain⟨c,r,e,f⟩:=yd6 nm;rw[e] at d;obtain⟨p,D,-⟩:=vq J i d (lim:=lim) a;obtain⟨q,z⟩:=yjv M nm (Vw s lim v.out.length) (I.resolve_left g);rw[e] at z;rw[p,D];refine⟨⟨q,z⟩,a,?_⟩;simp only[List.head?_cons,ne_eq,Option.some.injEq]
   rcases f with f|rfl
   ·exact(yow f).2.1
   ·decide
 by_cases g:n=0
 ·have hw:w.put (jf n)=w:=by unfold jf;rw[if_pos g];rfl
  rw[hw] at y;obtain⟨⟨q,e⟩,f,z⟩:=K w y;refine⟨?_,f⟩;unfold idN;rw[show ybf (Vw s lim (y8 s lim w))=some (0,Vw s lim (y8 s lim w)) by unfold ybf;rw[if_neg z]];simp only[e,Option.map_some,g]
  rfl
 ·have hd:jf n=115::jd (n-1):=by unfold jf;rw[if_neg g]
  obtain⟨u,d⟩:∃ u,u=w.put (jf n):=⟨_,rfl⟩;rw[<-d] at y;obtain⟨⟨q,e⟩,f,z⟩:=K u y;rw[hd] at d;have l:Ext u W:=(by rw[y] at i;exact(yau u nm).trans i);have H:u.out.length<=lim:=Nat.le_trans (by rw[y];exact(yau u nm).o.length_le) a;obtain⟨p,D,-⟩:=vq J l d (lim:=lim) H;refine⟨?_,f⟩;unfold idN;have A:=ynl n (Vw s lim u.out.length) (by omega) (fun h=>absurd h g);rw[hd,List.cons_append] at A;rw[D] at e;rw[p,A];simp only[e,Option.map_some]
def vo (l:List Bk):Nat:=(l.map Bk.bound).sum
theorem xc {a b:List Bk}(h:a <+: b):vo a<=vo b:=by
 obtain⟨c,rfl⟩:=h;unfold vo;simp
def Room (W:WS)(a e lim sg:Nat):Prop:=∀ bd∈W.bounds,a<=bd.at_->bd.at_<=e->bd.at_+bd.all+sg < lim
structure yf2 (s:List UInt8)(W:WS)(a e B sg lim:Nat):Prop where
 ll:lim<=s.length
 el:e<=lim
 rm:Room W a e lim sg
 sm:sg+B<=vo W.backs
theorem yf2.sub {s:List UInt8}{W:WS}{a e B sg lim c d b:Nat}(h:yf2 s W a e B sg lim)(g:a<=c)(f:d<=e)(i:b<=B):yf2 s W c d b sg lim:=
 ⟨h.ll,Nat.le_trans f h.el,fun bd hb j k=>h.rm bd hb (Nat.le_trans g j) (Nat.le_trans k f),Nat.le_trans (Nat.add_le_add_left i _) h.sm⟩
def ka (k:Nat):Sm:=if k<=6 then .path else if k<=16 then .type else .const
structure Ink (s:List UInt8)(W w:WS):Prop where
 ln:w.texts.length=w.marks.length
 old:∀ i,i < w.texts.length->w.marks.getD i 0 < w.out.length/\∃ f t0 ar0 b0,w.texts.getD i []=(wPl f t0 .zero).out/\(Rt (ka t0.kind) f b0 t0/\b0<=20)/\
  ∀ sg lim,yf2 s W (w.marks.getD i 0) w.out.length (vo w.backs) sg lim->∃ k',Sp s sg true lim (ka t0.kind) f ar0 b0 (w.marks.getD i 0) t0 k'
theorem Ink.grow {s:List UInt8}{W w v:WS}(h:Ink s W w)(a:v.texts=w.texts)(b:v.marks=w.marks)(c:w.out.length<=v.out.length)(d:vo w.backs<=vo v.backs):Ink s W v:=by
 refine⟨by rw[a,b];exact h.ln,fun i hi=>?_⟩;rw[a] at hi;obtain⟨l,f,t0,ar0,b0,e,g,j⟩:=h.old i hi;rw[a,b];exact⟨by omega,f,t0,ar0,b0,e,g,fun sg lim k=>j sg lim (k.sub (Nat.le_refl _) c d)⟩
theorem za (w:WS)(t:List UInt8):(w.put t).texts=w.texts/\(w.put t).marks=w.marks/\(w.put t).backs=w.backs/\(w.put t).bound=w.bound:=by
 cases t<;>exact⟨rfl,rfl,rfl,rfl⟩
theorem yle (w:WS)(t:List UInt8):(w.nm t).texts=w.texts/\(w.nm t).marks=w.marks/\(w.nm t).backs=w.backs/\(w.nm t).bound=w.bound:=by
 unfold WS.nm
 split
 ·exact⟨rfl,rfl,rfl,rfl⟩
 ·exact za w _
theorem yfl (w:WS)(n:Nat):(w.bind n).texts=w.texts/\(w.bind n).marks=w.marks/\(w.bind n).backs=w.backs/\(w.bind n).bound=w.bound+n:=by
 unfold WS.bind;have h:=za w (vc n);dsimp only
 split
 ·rename_i a;subst a;exact h
 ·exact⟨h.1,h.2.1,h.2.2.1,by show _+n=_;rw[h.2.2.2]⟩
theorem qe {s:List UInt8}{W w:WS}(h:Ink s W w)(t:List UInt8):Ink s W (w.put t):=
 h.grow (za w t).1 (za w t).2.1 (yj w t).o.length_le (by rw[(za w t).2.2.1];exact Nat.le_refl _)
theorem ysp {s:List UInt8}{W w:WS}(h:Ink s W w)(t:List UInt8):Ink s W (w.nm t):=
 h.grow (yle w t).1 (yle w t).2.1 (yau w t).o.length_le (by rw[(yle w t).2.2.1];exact Nat.le_refl _)
theorem ylk {s:List UInt8}{W w:WS}(h:Ink s W w)(n:Nat):Ink s W (w.bind n):=
 h.grow (yfl w n).1 (yfl w n).2.1 (ya1 w n).o.length_le (by rw[(yfl w n).2.2.1];exact Nat.le_refl _)
def Beg (md:Sm)(w v:WS):Prop:=∃ c r,gr md c=true/\kt c=false/\c≠95/\Ext (w.put (c::r)) v
theorem Beg.trans {md:Sm}{u v w:WS}(h:Beg md u v)(k:Ext v w):Beg md u w:=by
 obtain⟨c,r,a,b,d,e⟩:=h;exact⟨c,r,a,b,d,e.trans k⟩
theorem kq {md:Sm}(w:WS){c:UInt8}{r:List UInt8}(a:gr md c=true)(b:kt c=false)(d:c≠95):Beg md w (w.put (c::r)):=⟨c,r,a,b,d,.refl _⟩
theorem Beg.fl {s:List UInt8}{md:Sm}{w v W:WS}(h:Beg md w v)(d:W.out <+: s)(b:Ext v W):Fl s w:=by
 obtain⟨c,r,-,e,f,a⟩:=h;exact ycx d (a.trans b)
theorem Beg.k0 {s:List UInt8}{md:Sm}{w v W:WS}(h:Beg md w v)(g:W.out <+: s)(f:Ext v W)(lim:Nat):y8 s lim w=w.out.length:=by
 obtain⟨c,r,-,d,b,e⟩:=h;have a:=(e.trans f).o.trans g;unfold WS.put at a;dsimp only at a;rw[if_neg (by rw[d];simp;exact fun _=>b),List.nil_append] at a;unfold y8;rw[if_neg (fun h=>b (by rw[<-h.2.2,ybu a]))]
theorem Beg.len {md:Sm}{w v:WS}(h:Beg md w v):w.out.length < v.out.length:=by
 obtain⟨c,r,-,b,d,a⟩:=h;have:=a.o.length_le;unfold WS.put at this;dsimp only at this;rw[List.length_append,List.length_append,List.length_cons] at this;omega
structure Res (s:List UInt8)(W:WS)(hr:Bool)(md:Sm)(d ar b:Nat)(t:ya)(w v:WS):Prop where
 bd:v.bound=w.bound
 inv:Ink s W v
 sp:∀ sg lim,yf2 s W w.out.length v.out.length (vo v.backs) sg lim->Sp s sg hr lim md d ar b (y8 s lim w) t (y8 s lim v)
structure qg (s:List UInt8)(W:WS)(f:WS->WS)(hr:Bool)(md:Sm)(d b:Nat)(t:ya):Prop where
 ext:∀ w,Ext w (f w)
 beg:∀ w,Beg md w (f w)
 res:∀ ar w,Ink s W w->w.bound=ar+b->Ext (f w) W->Fl s (f w)->Res s W hr md d ar b t w (f w)
theorem yff {s:List UInt8}{W:WS}(C:W.out <+: s){f:WS->ya->WS}{hr:Bool}{md:Sm}{d b:Nat} : ∀ (a:List ya),(∀ i,i < a.length->qg s W (fun w=>f w (a.getD i .zero)) hr md d b (a.getD i .zero))->
  ∀ ar w,Ink s W w->w.bound=ar+b->Ext (a.foldl f w) W->Fl s (a.foldl f w)->
   (a.foldl f w).bound=w.bound/\Ink s W (a.foldl f w)/\Ext w (a.foldl f w)/\∃ e:Nat->WS,e 0=w/\e a.length=a.foldl f w/\
    ∀ sg lim,yf2 s W w.out.length (a.foldl f w).out.length (vo (a.foldl f w).backs) sg lim->∀ i,i < a.length->Sp s sg hr lim md d ar b (y8 s lim (e i)) (a.getD i .zero) (y8 s lim (e (i+1)))
 | [],_,ar,w,r,hb,g,c=>⟨rfl,r,.refl w,fun _=>w,rfl,rfl,fun sg lim u i hi=>by simp at hi⟩
 | t::l,B,ar,w,r,hb,g,c=>by
  rw[List.foldl_cons] at g c |-;have p:qg s W (fun w=>f w t) hr md d b t:=B 0 (by simp);have j:∀ i,i < l.length->qg s W (fun w=>f w (l.getD i .zero)) hr md d b (l.getD i .zero):=fun i hi=>B (i+1) (by simpa using hi);have y:Ext (f w t) (l.foldl f (f w t)):=by
   have:∀ (m:List ya) (w:WS),(∀ i,i < m.length->∀ w,Ext w (f w (m.getD i .zero)))->Ext w (m.foldl f w):=by
    intro m
    induction m with
    | nil=>exact fun w _=>.refl w
    | cons x m A=>exact fun w h=>(h 0 (by simp) w).trans (A _ fun i hi=>h (i+1) (by simpa using hi))
   exact this l _ fun i hi w=>(j i hi).ext w
  have z:Fl s (f w t):=by
   cases l with
   | nil=>exact c
   | cons x l=>
    have hb:=(j 0 (by simp)).beg (f w t);have v:Ext (f (f w t) x) W:=by
     refine Ext.trans ?_ g;rw[List.foldl_cons];have:∀ (m:List ya) (w:WS),(∀ i,i < m.length->∀ w,Ext w (f w (m.getD i .zero)))->Ext w (m.foldl f w):=by
      intro m
      induction m with
      | nil=>exact fun w _=>.refl w
      | cons x m A=>exact fun w h=>(h 0 (by simp) w).trans (A _ fun i hi=>h (i+1) (by simpa using hi))
     exact this l _ fun i hi w=>(j (i+1) (by simpa using hi)).ext w
    exact hb.fl C v
  have n:=p.res ar w r hb (y.trans g) z;obtain⟨D,E,q,e,F,G,H⟩:=yff C l j ar (f w t) n.inv (n.bd.trans hb) g c;refine⟨D.trans n.bd,E,(p.ext w).trans q,fun i=>match i with|0=>w|i+1=>e i,rfl,G,?_⟩
  intro sg lim u i hi
  cases i with
  | zero=>
   have:Sp s sg hr lim md d ar b (y8 s lim w) t (y8 s lim (f w t)):=n.sp sg lim (u.sub (Nat.le_refl _) q.o.length_le (xc q.k));rw[<-F] at this;exact this
  | succ i=>exact H sg lim (u.sub (p.ext w).o.length_le (Nat.le_refl _) (Nat.le_refl _)) i (by simpa using hi)
abbrev Pc:=Nat->ya->WS->WS
theorem Res.map {s:List UInt8}{W:WS}{hr c:Bool}{md e:Sm}{d g ar a b f:Nat}{t j:ya}{w v:WS}(h:Res s W hr md d ar b t w v)(k:∀ sg lim,lim<=s.length->Sp s sg hr lim md d ar b (y8 s lim w) t (y8 s lim v)->Sp s sg c lim e g a f (y8 s lim w) j (y8 s lim v)):Res s W c e g a f j w v:=
 ⟨h.bd,h.inv,fun sg lim i=>k sg lim i.ll (h.sp sg lim i)⟩
theorem yt7 (B:xm){s:List UInt8}{W:WS}(v:W.out <+: s)(x:Pc)(d b:Nat){l:UInt8}{nm:List UInt8}{n:Nat}{f:Bool}(a:zh nm=true)(G:n < 4611686018427387904) :
  qg s W (yc x (.mk 1 l nm n f [])) true .path (d+1) b (.mk 1 l nm n f []):=by
 have hw:∀ w,yc x (.mk 1 l nm n f []) w=(w.put (67::jf n)).nm nm:=fun w=>rfl;refine⟨fun w=>by rw[hw];exact(yj _ _).trans (yau _ _),fun w=>by rw[hw];exact(kq w (by decide) (by decide) (by decide)).trans (yau _ _),fun ar w A hb i k=>?_⟩;rw[hw] at i k |-;refine⟨((yle _ _).2.2.2).trans (za _ _).2.2.2,ysp (qe A _) _,fun sg lim g=>?_⟩;obtain⟨c1,F,c,e⟩:=yd6 nm;have j:Ext (w.put (67::jf n)) W:=(yau _ _).trans i;obtain⟨y,z,-⟩:=vq v j rfl (lim:=lim) (Nat.le_trans (yau _ _).o.length_le g.el);obtain⟨D,E⟩:=ya3 g.ll y;have p:=yi1 a;have C:(w.put (67::jf n)).nm nm=(w.put (67::jf n)).put (c1::F):=by
  show(if nm=[] then _ else(w.put (67::jf n)).put (vr nm))=_
  rw[if_neg p,c]
 obtain⟨r,t,-⟩:=vq v i C (lim:=lim) g.el;obtain⟨u,q⟩:=yjv B nm (Vw s lim ((w.put (67::jf n)).nm nm).out.length) a;rw[c] at q;rw[z] at r;have m:idN (Vw s lim (y8 s lim w+1))=some (some ((n:Int),nm,Vw s lim (y8 s lim ((w.put (67::jf n)).nm nm)))):=by
  rw[E,r,t];unfold idN;rw[ynl n _ (by omega) (fun _=>by
   simp only[List.head?_cons,ne_eq,Option.some.injEq]
   rcases e with h|rfl
   ·exact(yow h).2.1
   ·decide)]
  rw[List.cons_append] at q;simp only[q,Option.map_some]
 exact .crate D m (by rw[t];exact g.el) (ycl a)
theorem ytb {s:List UInt8}{w W:WS}{c:UInt8}{n:Nat}(j:W.out <+: s) (i:Ext (w.put (c::jf n)) W) (m:n < 4611686018427387904) {lim:Nat} (f:lim<=s.length) (a:(w.put (c::jf n)).out.length<=lim)
  (b:s.getD (y8 s lim (w.put (c::jf n))) 0≠115):Ch s lim (y8 s lim w) c/\ybf (Vw s lim (y8 s lim w+1))=some ((n:Int),Vw s lim (y8 s lim (w.put (c::jf n))))/\y8 s lim (w.put (c::jf n))<=lim:=by
 obtain⟨g,d,-⟩:=vq j i rfl (lim:=lim) a;obtain⟨k,l⟩:=ya3 f g;refine⟨k,?_,by rw[d];exact a⟩;rw[l,d,ynl n _ (by omega) (fun _ h=>?_)];rw[d] at b
 rcases Nat.lt_or_ge (w.put (c::jf n)).out.length lim with e|e
 ·rw[yc8 f e] at h
  exact b (by simpa using h)
 ·rw[yh8 e] at h;cases h
theorem ywz {s:List UInt8}{W:WS}(u:W.out <+: s)(c:Pc){d b:Nat}{l:UInt8}{nm:List UInt8}{n:Nat}{f:Bool}{p t:ya}(y:n < 4611686018427387904)
  (e:qg s W (c 0 p) false .path d 0 p) (a:qg s W (c 0 t) false .type d b t):qg s W (yc c (.mk 2 l nm n f [p,t])) true .path (d+1) b (.mk 2 l nm n f [p,t]):=by
 have hw:∀ w,yc c (.mk 2 l nm n f [p,t]) w=c 0 t (c 0 p (w.put (77::jf n))):=fun w=>rfl;refine⟨fun w=>by rw[hw];exact((yj _ _).trans (e.ext _)).trans (a.ext _),fun w=>by rw[hw];exact((kq w (by decide) (by decide) (by decide)).trans (e.ext _)).trans (a.ext _),fun ar w x hb i j=>?_⟩;rw[hw] at i j |-;have m:=e.res (ar+b) (w.put (77::jf n)) (qe x _) ((za _ _).2.2.2.trans hb) ((a.ext _).trans i) ((a.beg _).fl u i);have q:=a.res ar (c 0 p (w.put (77::jf n))) m.inv (m.bd.trans ((za _ _).2.2.2.trans hb)) i j;refine⟨q.bd.trans (m.bd.trans (za _ _).2.2.2),q.inv,fun sg lim g=>?_⟩;have v:=m.sp sg lim (g.sub (yj _ _).o.length_le (a.ext _).o.length_le (xc (a.ext _).k));have C:=q.sp sg lim (g.sub ((yj _ _).trans (e.ext _)).o.length_le (Nat.le_refl _) (Nat.le_refl _));have r:=(qm v g.ll).2.2.2;obtain⟨z,A,B⟩:=ytb u (((e.ext _).trans (a.ext _)).trans i) y g.ll (Nat.le_trans ((e.ext _).trans (a.ext _)).o.length_le g.el) (fun h=>by rw[h] at r;exact absurd r (by decide));exact .impl z A B v C
theorem yt5 {s:List UInt8}{W:WS}(x:W.out <+: s)(e:Pc){d b:Nat}{l:UInt8}{nm:List UInt8}{n:Nat}{f:Bool}{p t q:ya}(C:n < 4611686018427387904)
  (m:qg s W (e 0 p) false .path d 0 p) (g:qg s W (e 0 t) false .type d b t) (a:qg s W (e 0 q) false .path d b q):qg s W (yc e (.mk 3 l nm n f [p,t,q])) true .path (d+1) b (.mk 3 l nm n f [p,t,q]):=by
 have hw:∀ w,yc e (.mk 3 l nm n f [p,t,q]) w=e 0 q (e 0 t (e 0 p (w.put (88::jf n)))):=fun w=>rfl;refine⟨fun w=>by rw[hw];exact(((yj _ _).trans (m.ext _)).trans (g.ext _)).trans (a.ext _),fun w=>by rw[hw];exact(((kq w (by decide) (by decide) (by decide)).trans (m.ext _)).trans (g.ext _)).trans (a.ext _),fun ar w B hb i r=>?_⟩;rw[hw] at i r |-;have u:=m.res (ar+b) (w.put (88::jf n)) (qe B _) ((za _ _).2.2.2.trans hb) (((g.ext _).trans (a.ext _)).trans i) ((g.beg _).fl x ((a.ext _).trans i));have v:=g.res ar (e 0 p (w.put (88::jf n))) u.inv (u.bd.trans ((za _ _).2.2.2.trans hb)) ((a.ext _).trans i) ((a.beg _).fl x i);have y:=a.res ar (e 0 t (e 0 p (w.put (88::jf n)))) v.inv (v.bd.trans (u.bd.trans ((za _ _).2.2.2.trans hb))) i r;refine⟨y.bd.trans (v.bd.trans (u.bd.trans (za _ _).2.2.2)),y.inv,fun sg lim j=>?_⟩;have A:=u.sp sg lim (j.sub (yj _ _).o.length_le ((g.ext _).trans (a.ext _)).o.length_le (xc ((g.ext _).trans (a.ext _)).k));have G:=v.sp sg lim (j.sub ((yj _ _).trans (m.ext _)).o.length_le (a.ext _).o.length_le (xc (a.ext _).k));have H:=y.sp sg lim (j.sub (((yj _ _).trans (m.ext _)).trans (g.ext _)).o.length_le (Nat.le_refl _) (Nat.le_refl _));have z:=(qm A j.ll).2.2.2;have c:=((m.ext (w.put (88::jf n))).trans (g.ext _)).trans (a.ext _);obtain⟨D,E,F⟩:=ytb x (c.trans i) C j.ll (Nat.le_trans c.o.length_le j.el) (fun h=>by rw[h] at z;exact absurd z (by decide));exact .timpl D E F A G H
theorem ywx {s:List UInt8}{W:WS}(r:W.out <+: s)(e:Pc){d b:Nat}{l:UInt8}{nm:List UInt8}{n:Nat}{f:Bool}{t q:ya}
  (j:qg s W (e 0 t) false .type d b t) (c:qg s W (e 0 q) false .path d b q):qg s W (yc e (.mk 4 l nm n f [t,q])) true .path (d+1) b (.mk 4 l nm n f [t,q]):=by
 have hw:∀ w,yc e (.mk 4 l nm n f [t,q]) w=e 0 q (e 0 t (w.put [89])):=fun w=>rfl;refine⟨fun w=>by rw[hw];exact(((yj _ _)).trans (j.ext _)).trans (c.ext _),fun w=>by rw[hw];exact(((kq w (by decide) (by decide) (by decide))).trans (j.ext _)).trans (c.ext _),fun ar w B hb h i=>?_⟩;rw[hw] at h i |-;have m:=j.res ar (w.put [89]) (qe B _) ((za _ _).2.2.2.trans hb) ((c.ext _).trans h) ((c.beg _).fl r h);have p:=c.res ar (e 0 t (w.put [89])) m.inv (m.bd.trans ((za _ _).2.2.2.trans hb)) h i;refine⟨p.bd.trans (m.bd.trans (za _ _).2.2.2),p.inv,fun sg lim g=>?_⟩;have v:=m.sp sg lim (g.sub ((yj _ _)).o.length_le (c.ext _).o.length_le (xc (c.ext _).k));have E:=p.sp sg lim (g.sub (((yj _ _)).trans (j.ext _)).o.length_le (Nat.le_refl _) (Nat.le_refl _));have a:=(j.ext (w.put [89])).trans (c.ext _);obtain⟨x,y,-⟩:=vq r (a.trans h) rfl (lim:=lim) (Nat.le_trans a.o.length_le g.el);obtain⟨u,D⟩:=ya3 g.ll x;have C:y8 s lim (w.put [89])=y8 s lim w+1:=by
  have z:y8 s lim w+1<=lim:=u.1;have A:(w.put [89]).out.length<=lim:=Nat.le_trans a.o.length_le g.el;rw[y];exact vy g.ll A z (by rw[D];rfl)
 rw[C] at v;exact .tdef u v E
theorem yqv (M:xm){s:List UInt8}{W:WS}(z:W.out <+: s)(u:Pc){d b:Nat}{l:UInt8}{nm:List UInt8}{n:Nat}{f:Bool}{p:ya}(O:n < 4611686018427387904)
  (F:(97<=l.toNat/\l.toNat<=122/\zh nm=true)\/((l=67\/l=83)/\(nm=[]\/zh nm=true))) (A:qg s W (u 0 p) false .path d b p):qg s W (yc u (.mk 5 l nm n f [p])) true .path (d+1) b (.mk 5 l nm n f [p]):=by
 have hw:∀ w,yc u (.mk 5 l nm n f [p]) w=((u 0 p (w.put [78,l])).put (jf n)).nm nm:=fun w=>rfl;have g:∀ w:WS,Ext w ((w.put (jf n)).nm nm):=fun w=>(yj _ _).trans (yau _ _);have B:nm=[]\/zh nm=true:=by rcases F with⟨_,_,h⟩|⟨_,h⟩;exact .inr h;exact h
 refine⟨fun w=>by rw[hw];exact((yj _ _).trans (A.ext _)).trans (g _),fun w=>by rw[hw];exact((kq w (by decide) (by decide) (by decide)).trans (A.ext _)).trans (g _),fun ar w L hb a x=>?_⟩;rw[hw] at a x |-;have y:Fl s (u 0 p (w.put [78,l])):=by
  generalize u 0 p (w.put [78,l])=v at *
  by_cases E:n=0
  ·have C:v.put (jf n)=v:=by unfold jf;rw[if_pos E];rfl
   rw[C] at a;unfold WS.nm at a
   by_cases i:nm=[]
   ·rw[if_pos i] at a
    exact ycx (c:=48) (r:=[]) z ⟨a.o,a.t,a.m,a.b,a.k⟩
   ·rw[if_neg i] at a
    obtain⟨c,r,q,_⟩:=yd6 nm;rw[q] at a;exact ycx z a
  ·have C:jf n=115::jd (n-1):=by unfold jf;rw[if_neg E]
   rw[C] at a;exact ycx z ((yau _ _).trans a)
 have D:=A.res ar (w.put [78,l]) (qe L _) ((za _ _).2.2.2.trans hb) ((g _).trans a) y;refine⟨((yle _ _).2.2.2).trans ((za _ _).2.2.2.trans (D.bd.trans (za _ _).2.2.2)),ysp (qe D.inv _) _,fun sg lim j=>?_⟩;have H:=D.sp sg lim (j.sub (yj _ _).o.length_le (g _).o.length_le (xc (g _).k));have e:=(A.ext (w.put [78,l])).trans (g _);obtain⟨I,J,-⟩:=vq z (e.trans a) rfl (lim:=lim) (Nat.le_trans e.o.length_le j.el);obtain⟨P,Q⟩:=ya3 j.ll I;obtain⟨G,R⟩:=ya3 j.ll Q;have N:y8 s lim (w.put [78,l])=y8 s lim w+2:=by
  have i:y8 s lim w+1+1<=lim:=G.1;have q:(w.put [78,l]).out.length<=lim:=Nat.le_trans e.o.length_le j.el;rw[J];exact vy j.ll q i (by rw[R];rfl)
 rw[N] at H;obtain⟨S,z2⟩:=yu9 M z a rfl O B x j.ll j.el;refine .nested P G H S z2 ?_
 rcases F with⟨i,q,K⟩|⟨i,q⟩
 ·exact .inl ⟨i,q,ycl K⟩
 ·exact .inr ⟨i,q.imp id ycl,by omega⟩
theorem kp {s:List UInt8}{w W:WS}{c:UInt8}(i:W.out <+: s)(h:Ext (w.put [c]) W){lim:Nat}(b:lim<=s.length)(a:(w.put [c]).out.length<=lim):Ch s lim (y8 s lim w) c/\y8 s lim (w.put [c])=y8 s lim w+1:=by
 obtain⟨e,f,-⟩:=vq i h rfl (lim:=lim) a;obtain⟨d,j⟩:=ya3 b e;refine⟨d,?_⟩;have g:y8 s lim w+1<=lim:=d.1;rw[f];exact vy b a g (by rw[j];rfl)
theorem w_gen {s:List UInt8}{W:WS}(v:W.out <+: s)(c:Pc){d b:Nat}{l:UInt8}{nm:List UInt8}{n:Nat}{f:Bool}{p:ya}{a:List ya}(D:a≠[])
  (q:qg s W (c 0 p) false .path d b p) (y:∀ i,i < a.length->qg s W (fun w=>vb (c 0) (a.getD i .zero) w) true .arg d b (a.getD i .zero)):qg s W (yc c (.mk 6 l nm n f (p::a))) true .path (d+1) b (.mk 6 l nm n f (p::a)):=by
 have hw:∀ w,yc c (.mk 6 l nm n f (p::a)) w=(a.foldl (fun w t=>vb (c 0) t w) (c 0 p (w.put [73]))).put [69]:=fun w=>rfl;have r:∀ (m:List ya) (w:WS),(∀ i,i < m.length->∀ w,Ext w (vb (c 0) (m.getD i .zero) w))->Ext w (m.foldl (fun w t=>vb (c 0) t w) w):=by
  intro m
  induction m with
  | nil=>exact fun w _=>.refl w
  | cons x m N=>exact fun w h=>(h 0 (by simp) w).trans (N _ fun i hi=>h (i+1) (by simpa using hi))
 have e:∀ w:WS,Ext w (a.foldl (fun w t=>vb (c 0) t w) w):=fun w=>r a w fun i hi w=>(y i hi).ext w;refine⟨fun w=>by rw[hw];exact(((yj _ _).trans (q.ext _)).trans (e _)).trans (yj _ _),fun w=>by rw[hw];exact(((kq w (by decide) (by decide) (by decide)).trans (q.ext _)).trans (e _)).trans (yj _ _),fun ar w M hb z C=>?_⟩;rw[hw] at z C |-;have g:=(yj _ _).trans z;have u:Fl s (c 0 p (w.put [73])):=by
  cases a with
  | nil=>exact absurd rfl D
  | cons x H=>
   have hb:=(y 0 (by simp)).beg (c 0 p (w.put [73]));rw[List.foldl_cons] at g;exact hb.fl v ((r H _ fun i hi w=>(y (i+1) (by simpa using hi)).ext w).trans g)
 have A:=q.res ar (w.put [73]) (qe M _) ((za _ _).2.2.2.trans hb) ((e _).trans g) u;obtain⟨I,J,T,S,K,E,L⟩:=yff v a y ar (c 0 p (w.put [73])) A.inv (A.bd.trans ((za _ _).2.2.2.trans hb)) g (ycx v z);refine⟨(za _ _).2.2.2.trans (I.trans (A.bd.trans (za _ _).2.2.2)),qe J _,fun sg lim j=>?_⟩;have B:vo ((a.foldl (fun w t=>vb (c 0) t w) (c 0 p (w.put [73]))).put [69]).backs=vo (a.foldl (fun w t=>vb (c 0) t w) (c 0 p (w.put [73]))).backs:=by rw[(za _ _).2.2.1]
 rw[B] at j;have G:=A.sp sg lim (j.sub (yj _ _).o.length_le ((e _).trans (yj _ _)).o.length_le (xc (e _).k));have R:=L sg lim (j.sub ((yj _ _).trans (q.ext _)).o.length_le (yj _ _).o.length_le (Nat.le_refl _));obtain⟨O,P⟩:=kp v (((q.ext _).trans (e _)).trans g) j.ll (Nat.le_trans (((q.ext _).trans (e _)).trans (yj _ _)).o.length_le j.el);obtain⟨F,Q⟩:=kp v z j.ll j.el;rw[P] at G;rw[Q,<-E];rw[<-E] at F;refine .gen (ks:=fun i=>y8 s lim (S i)) O ?_ R F;rw[K];exact G
end Go.Proofs.YtfckcdbpiepchaaGreatDoor
