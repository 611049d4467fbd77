import Derived.Test.YtfckcdbpiepchaaGreatDoorNs04
import Derived.Lib.ValidU
import Derived.Lib.AppendIntMem
import Derived.Lib.ItoaMem
import Derived.Lib.SmallJoins
namespace Go.Proofs.YtfckcdbpiepchaaGreatDoor
open Go.RowKit
set_option maxRecDepth 100000
set_option maxHeartbeats 8000000
set_option linter.all false
def ye {α β:Type}(x:Option (Option α))(f:α->Option (Option β)):Option (Option β):=
 match x with
 | none=>none
 | some none=>some none
 | some (some a)=>f a
@[simp] theorem bindM_none {α β:Type} (f:α->Option (Option β)):ye none f=none:=rfl
@[simp] theorem bindM_fail {α β:Type} (f:α->Option (Option β)):ye (some none) f=some none:=rfl
@[simp] theorem bindM_ok {α β:Type} (a:α) (f:α->Option (Option β)):ye (some (some a)) f=f a:=rfl
def wS (s:List UInt8)(st:RS):Option (Option RS):=if st.out.length+s.length<=35184372088832 then some (some (st.wr s)) else none
def yk6 (s:List UInt8)(l:Int)(st:RS):Option (Option RS):=
 if st.skip=true then some (some st) else if st.out.length+s.length<=35184372088832 then some (some { st with out:=st.out++s,last:=l }) else none
def yb0 (c:UInt8)(st:RS):Option (Option RS):=
 match st.str with
 | []=>some none
 | d::r=>if d=c then some (some (st.go r)) else some none
def yb3 (lt:Int)(st:RS):Option (Option RS):=
 if lt < 0\/4611686018427387904 < lt then none
 else ye (wS [39] st) fun s=>
  if lt=0 then wS [95] s
  else if s.life-lt < 0 then some none
  else if s.life-lt < 26 then wS [UInt8.ofNat (97+(s.life-lt).toNat)] s
  else if s.skip=true then wS [122] s
  else none
def yaj:Nat->Bool->RS->Option (Option RS)
 | 0,_,st=>some (some st)
 | k+1,first,st=>ye (if first=true then some (some st) else wS [44,32] st) fun s=>ye (yb3 1 { s with life:=s.life+1 }) fun s=>yaj k false s
def yay (st:RS):Option (Option RS):=
 match st.str with
 | []=>some (some st)
 | c::r=>
  if c=71 then
   match b62 r with
   | none=>some none
   | some (v,r2)=>
    if v < 0\/4611686018427387904 < v then none
    else if v+1≥(r2.length:Int)-st.life then some none
    else ye (wS [102,111,114,60] (st.go r2)) fun s=>ye (yaj (v+1).toNat true s) fun s=>wS [62,32] s
  else some (some st)
def kw (c:UInt8):Option (List UInt8):=
 match c.toNat with
 | 97=>some [105,56]
 | 98=>some [98,111,111,108]
 | 99=>some [99,104,97,114]
 | 100=>some [102,54,52]
 | 101=>some [115,116,114]
 | 102=>some [102,51,50]
 | 104=>some [117,56]
 | 105=>some [105,115,105,122,101]
 | 106=>some [117,115,105,122,101]
 | 108=>some [105,51,50]
 | 109=>some [117,51,50]
 | 110=>some [105,49,50,56]
 | 111=>some [117,49,50,56]
 | 112=>some [95]
 | 115=>some [105,49,54]
 | 116=>some [117,49,54]
 | 117=>some [40,41]
 | 118=>some [46,46,46]
 | 120=>some [105,54,52]
 | 121=>some [117,54,52]
 | 122=>some [33]
 | _=>none
def yev (st:RS):Option (Option RS):=
 match st.str with
 | []=>some none
 | c::r=>match kw c with
  | none=>some none
  | some t=>wS t (st.go r)
def gu (c:Int):Int:=if 48<=c/\c<=57 then c-48 else if 97<=c/\c<=102 then c-97+10 else -1
def j5:List UInt8->Nat->Nat->Option (Nat×Nat×List UInt8)
 | [],k,v=>some (k,v,[])
 | c::r,k,v=>
  if c=95 then some (k,v,r)
  else if gu c.toNat < 0 then none
  else if v=0/\gu c.toNat=0/\r.head?≠some 95 then none
  else j5 r (k+1) ((v*16+(gu c.toNat).toNat) % 18446744073709551616)
def xt (c:UInt8):Nat:=
 match c.toNat with
 | 97|115|108|120|110|105=>1
 | 104|116|109|121|111|106=>2
 | 98=>3
 | 99=>4
 | _=>0
inductive Kd
 | path (b:Bool)
 | type
 | const
 | psg
abbrev Rec:=Kd->RS->Option (Option (RS×Bool))
def asU (x:Option (Option RS)):Option (Option (RS×Bool)):=ye x fun s=>some (some (s,false))
def ykp (rec:Rec)(k:Kd)(off v:Int)(s:RS):Option (Option (RS×Bool)):=
 if s.skip=true then some (some (s,false))
 else if 0 < s.max/\s.max < s.out.length then some (some (s,false))
 else if v < 0\/v≥off then some none
 else ye (rec k { s with str:=(s.orig.take off.toNat).drop v.toNat,off:=v }) fun z=>some (some ({ z.1 with str:=s.str,off:=s.off },z.2))
def yal (rec:Rec)(k:Kd)(st:RS):Option (Option (RS×Bool)):=
 ye (yb0 66 st) fun s=>
  match b62 s.str with
  | none=>some none
  | some (v,r2)=>ykp rec k st.off v (s.go r2)
def yll (v k:Nat)(st:RS):Option (Option RS):=if 16 < k then none else yk6 (Lib.decDigits v) 48 st
def yji (v k:Nat)(st:RS):Option (Option RS):=
 if 1 < k then some none else if v=0 then wS [102,97,108,115,101] st else if v=1 then wS [116,114,117,101] st else some none
def yjh (v k:Nat)(st:RS):Option (Option RS):=
 if 6 < k then some none
 else ye (wS [39] st) fun s=>ye (if 32<=v/\v<=126/\v≠92/\v≠39 then wS [UInt8.ofNat v] s else none) fun s=>wS [39] s
def gt (kind:Nat)(st:RS):Option (Option RS):=
 match j5 st.str 0 0 with
 | none=>some none
 | some (k,v,rest)=>
  if k=0 then some none
  else if kind=3 then yji v k (st.go rest)
  else if kind=4 then yjh v k (st.go rest)
  else yll v k (st.go rest)
def ybv (rec:Rec)(st:RS):Option (Option (RS×Bool)):=
 match st.str with
 | []=>some none
 | c::r=>
  if c=66 then yal rec .const st
  else if c=112 then asU (wS [95] (st.go r))
  else if xt c=0 then some none
  else asU (ye (if xt c=1/\r.head? = some 110 then wS [45] (st.go r.tail) else some (some (st.go r))) fun s=>gt (xt c) s)
def yee (rec:Rec)(st:RS):Option (Option RS):=
 match ybf st.str with
 | none=>some none
 | some (_,r)=>ye (rec (.path false) { st.go r with skip:=true }) fun z=>some (some { z.1 with skip:=st.skip })
def yb7 (rec:Rec)(st:RS):Option (Option RS):=
 match st.str with
 | []=>some none
 | c::r=>
  if c=76 then
   match b62 r with
   | none=>some none
   | some (v,r2)=>yb3 v (st.go r2)
  else if c=75 then ye (rec .const (st.go r)) fun z=>some (some z.1)
  else ye (rec .type st) fun z=>some (some z.1)
def xy (item:RS->Option (Option RS))(sep:List UInt8):Nat->Nat->RS->Option (Option (RS×Nat))
 | 0,_,_=>none
 | m+1,k,st=>
  if st.str.head?.getD 69=69 then some (some (st,k))
  else ye (if k=0 then some (some st) else wS sep st) fun s=>ye (item s) fun s=>xy item sep m (k+1) s
def ycd (rec:Rec)(st:RS):Option (Option RS):=
 if st.nogen=true then ye (xy (yb7 rec) [44,32] (st.str.length+1) 0 { st with skip:=true }) fun z=>some (some { z.1 with skip:=st.skip })
 else ye (xy (yb7 rec) [44,32] (st.str.length+1) 0 st) fun z=>some (some z.1)
def ycu (rec:Rec)(st:RS):Option (Option (RS×Nat)):=xy (fun s=>ye (rec .type s) fun z=>some (some z.1)) [44,32] (st.str.length+1) 0 st
def yml (st:RS):Option (Option RS):=
 if st.str.head? = some 75 then
  if st.str.tail.head? = some 67 then wS [101,120,116,101,114,110,32,34,67,34,32] (st.go st.str.tail.tail)
  else ye (wS [101,120,116,101,114,110,32,34] (st.go st.str.tail)) fun s=>
   match vn s.str with
   | none=>none
   | some none=>some none
   | some (some z)=>
    if z.2.1=true then some none
    else ye (wS (z.1.map fun c=>if c=95 then 45 else c) (s.go z.2.2)) fun s=>wS [34,32] s
 else some (some st)
def fnM (rec:Rec)(st:RS):Option (Option RS):=
 ye (yay st) fun s=>
 ye (if s.str.head? = some 85 then wS [117,110,115,97,102,101,32] (s.go s.str.tail) else some (some s)) fun s=>
 ye (yml s) fun s=>
 ye (wS [102,110,40] s) fun s=>
 ye (ycu rec s) fun z=>
 ye (yb0 69 z.1) fun s=>
 ye (wS [41] s) fun s=>
 if s.str.head? = some 117 then some (some (s.go s.str.tail))
 else ye (wS [32,45,62,32] s) fun s=>ye (rec .type s) fun z=>some (some z.1)
def xu (rec:Rec):Nat->Bool->RS->Option (Option (RS×Bool))
 | 0,_,_=>none
 | m+1,started,st=>
  if st.str.head? = some 112 then
   ye (if started=true then wS [44,32] (st.go st.str.tail) else wS [60] (st.go st.str.tail)) fun s=>
   match vn s.str with
   | none=>none
   | some none=>some none
   | some (some z)=>
    ye (wS z.1 (s.go z.2.2)) fun s=>ye (wS [32,61,32] s) fun s=>ye (rec .type s) fun z=>xu rec m true z.1
  else some (some (st,started))
def xd (rec:Rec)(st:RS):Option (Option RS):=
 ye (rec .psg st) fun y=>ye (xu rec (y.1.str.length+1) y.2 y.1) fun z=>if z.2=true then wS [62] z.1 else some (some z.1)
def ylz (rec:Rec)(st:RS):Option (Option RS):=
 ye (wS [100,121,110,32] st) fun s=>ye (yay s) fun s=>
 ye (xy (xd rec) [32,43,32] (s.str.length+1) 0 s) fun z=>yb0 69 z.1
def yg1 (rec:Rec)(st:RS):Option (Option (RS×Bool)):=
 match st.str with
 | []=>some none
 | c::r=>
  if c=73 then
   ye (rec (.path false) (st.go r)) fun z=>ye (wS [60] z.1) fun s=>ye (ycd rec s) fun s=>ye (yb0 69 s) fun s=>some (some (s,true))
  else if c=66 then yal rec .psg st
  else ye (rec (.path false) st) fun z=>some (some (z.1,false))
def yck (ns:UInt8)(d:Int)(t:List UInt8)(st:RS):Option (Option RS):=
 if 97<=ns.toNat then ye (wS [58,58] st) fun s=>wS t s
 else ye (wS [58,58,123] st) fun s=>
  ye (if ns=67 then wS [99,108,111,115,117,114,101] s else if ns=83 then wS [115,104,105,109] s else none) fun s=>
  ye (if t=[] then some (some s) else ye (wS [58] s) fun s=>wS t s) fun s=>
  if d < 0 then none else yk6 (35::(Lib.decDigits d.toNat++[125])) 125 s
def xi (rec:Rec)(b:Bool)(st:RS):Option (Option (RS×Bool)):=
 match st.str with
 | []=>some none
 | c::r=>
  if c=67 then
   match idN r with
   | none=>none
   | some none=>some none
   | some (some z)=>asU (wS z.2.1 (st.go z.2.2))
  else if c=77 then
   ye (yee rec (st.go r)) fun s=>ye (wS [60] s) fun s=>ye (rec .type s) fun z=>asU (wS [62] z.1)
  else if c=88 then
   ye (yee rec (st.go r)) fun s=>ye (wS [60] s) fun s=>ye (rec .type s) fun z=>ye (wS [32,97,115,32] z.1) fun s=>ye (rec (.path false) s) fun z=>asU (wS [62] z.1)
  else if c=89 then
   ye (wS [60] (st.go r)) fun s=>ye (rec .type s) fun z=>ye (wS [32,97,115,32] z.1) fun s=>ye (rec (.path false) s) fun z=>asU (wS [62] z.1)
  else if c=78 then
   match r with
   | []=>some none
   | ns::r2=>
    if ¬ ((97<=ns.toNat/\ns.toNat<=122)\/(65<=ns.toNat/\ns.toNat<=90)) then some none
    else ye (rec (.path b) (st.go r2)) fun z=>
     match idN z.1.str with
     | none=>none
     | some none=>some none
     | some (some y)=>asU (yck ns y.1 y.2.1 (z.1.go y.2.2))
  else if c=73 then
   ye (rec (.path b) (st.go r)) fun z=>ye (if b=true then wS [58,58] z.1 else some (some z.1)) fun s=>ye (wS [60] s) fun s=>
    ye (ycd rec s) fun s=>ye (wS [62] s) fun s=>asU (yb0 69 s)
  else if c=66 then yal rec (.path b) st
  else some none
def yih (rec:Rec)(mu:Bool)(st:RS):Option (Option (RS×Bool)):=
 ye (wS [38] st) fun s=>
 ye (if s.str.head? = some 76 then
   match b62 s.str.tail with
   | none=>some none
   | some (v,r2)=>if v < 0 then none else if v=0 then some (some (s.go r2)) else ye (yb3 v (s.go r2)) fun s=>wS [32] s
  else some (some s)) fun s=>
 ye (if mu=true then wS [109,117,116,32] s else some (some s)) fun s=>rec .type s
def yc4 (st:RS):Option (Option RS):=
 if st.str.head? = some 76 then
  match b62 st.str.tail with
  | none=>some none
  | some (v,r2)=>
   if v < 0 then none else if v=0 then some (some (st.go r2))
   else ye (if st.last=32 then some (some (st.go r2)) else wS [32] (st.go r2)) fun s=>ye (wS [43,32] s) fun s=>yb3 v s
 else some none
def gw (rec:Rec)(st:RS):Option (Option (RS×Bool)):=
 match st.str with
 | []=>some none
 | c::r=>
  if 97<=c.toNat/\c.toNat<=122 then asU (yev st)
  else if c=67\/c=77\/c=88\/c=89\/c=78\/c=73 then rec (.path false) st
  else if c=65 then ye (wS [91] (st.go r)) fun s=>ye (rec .type s) fun z=>ye (wS [59,32] z.1) fun s=>ye (rec .const s) fun z=>asU (wS [93] z.1)
  else if c=83 then ye (wS [91] (st.go r)) fun s=>ye (rec .type s) fun z=>asU (wS [93] z.1)
  else if c=84 then
   ye (wS [40] (st.go r)) fun s=>ye (ycu rec s) fun z=>ye (if z.2=1 then wS [44] z.1 else some (some z.1)) fun s=>ye (wS [41] s) fun s=>asU (yb0 69 s)
  else if c=82 then yih rec false (st.go r)
  else if c=81 then yih rec true (st.go r)
  else if c=80 then ye (wS [42,99,111,110,115,116,32] (st.go r)) fun s=>rec .type s
  else if c=79 then ye (wS [42,109,117,116,32] (st.go r)) fun s=>rec .type s
  else if c=70 then ye (fnM rec (st.go r)) fun s=>some (some ({ s with life:=st.life },false))
  else if c=68 then ye (ylz rec (st.go r)) fun s=>asU (yc4 { s with life:=st.life })
  else if c=66 then yal rec .type st
  else some none
def yis (rec:Rec):Rec
 | .path b,st=>xi rec b st
 | .type,st=>gw rec st
 | .const,st=>ybv rec st
 | .psg,st=>yg1 rec st
def jg:Nat->Rec
 | 0=>fun _ _=>none
 | n+1=>yis (jg n)
inductive ya where
 | mk (kind:Nat) (letter:UInt8) (name:List UInt8) (num:Nat) (flag:Bool) (kids:List ya)
namespace ya
def kind:ya->Nat
 | mk k _ _ _ _ _=>k
def letter:ya->UInt8
 | mk _ l _ _ _ _=>l
def name:ya->List UInt8
 | mk _ _ n _ _ _=>n
def num:ya->Nat
 | mk _ _ _ n _ _=>n
def flag:ya->Bool
 | mk _ _ _ _ f _=>f
def kids:ya->List ya
 | mk _ _ _ _ _ k=>k
def zero:ya:=mk 0 0 [] 0 false []
end ya
structure RR where
 pos:Nat
 kinds:List Nat
 left:Int
 why:Nat
 fin:Nat
 aside:Bool
 around:Nat
 refers:Bool
 bad:Bool
def RR.stop (r:RR)(n:Nat):RR:=if r.why=0 then { r with why:=n } else r
def RR.nx (s:List UInt8)(r:RR):UInt8:=s.getD r.pos 0
def RR.fits (s:List UInt8)(r:RR)(c:UInt8):Bool:=decide (r.why=0/\r.pos < s.length/\s.getD r.pos 0=c)
def RR.tk (s:List UInt8)(r:RR)(c:UInt8):RR:=if r.fits s c then { r with pos:=r.pos+1 } else r
def RR.dec (r:RR):RR:={ r with left:=r.left-1 }
def kt (c:UInt8):Bool:=decide (48<=c.toNat/\c.toNat<=57)
def jr (n:List UInt8):Bool:=n.all yr&&!n.isEmpty
def xf (s:ByteArray):Nat->Nat->List Int
 | 0,_=>[]
 | f+1,k=>if k < s.size then((Utf8.decode s k).1:Int)::xf s f (k+(Utf8.decode s k).2) else []
def ga (n:List UInt8):Option (List Int):=if Lib.validD n=true then some (xf ⟨n.toArray⟩ n.length 0) else none
def zh (n:List UInt8):Bool:=
 if jr n then decide (n.length<=1000)
 else match ga n with
  | none=>false
  | some l=>decide (l≠[]/\l.length<=60)&&l.all fun c=>decide (c < 128->yr (UInt8.ofNat c.toNat)=true)
def yc7 (first:Bool)(c:UInt8):Bool:=decide (97<=c.toNat/\c.toNat<=122)||(!first&&(c == 45||kt c))
def ybe (n:List UInt8):Bool:=
 match n with
 | []=>true
 | c::r=>n == [67]||(yc7 true c&&r.all (yc7 false)&&decide (n.length<=20))
def yx (c:UInt8):Nat×Bool:=
 match c.toNat with
 | 97=>(8,true)
 | 115=>(16,true)
 | 108=>(32,true)
 | 120|110|105=>(64,true)
 | 104=>(8,false)
 | 116=>(16,false)
 | 109=>(32,false)
 | 121|111|106=>(64,false)
 | _=>(0,false)
def qv (c:UInt8)(n:Nat)(f:Bool):Bool:=
 if c=98 then decide (n<=1)&&!f
 else if c=99 then decide (32<=n/\n<=126/\n≠39/\n≠34/\n≠92)&&!f
 else
  let b:=yx c
  if b.1=0 then false
  else if b.2=false then !f&&(decide (b.1=64)||decide (n < 2 ^ b.1))
  else if f then decide (0 < n/\n<=2 ^ (b.1-1)) else decide (n < 2 ^ (b.1-1))
abbrev RecR:=Nat->Kd->Nat->RR->ya×RR
def yb4 (c:UInt8):Bool:=c == 67||c == 77||c == 88||c == 89||c == 78||c == 73
def Kd.no:Kd->Nat
 | .const=>3
 | _=>2
def ya8 (t:ya):Bool:=t.kind == 10&&t.kids.isEmpty
def isU (t:ya):Bool:=t.kind == 7&&t.letter == 117
theorem ygl {P:Program}{w w':World}{r t s e n:Nat}{i:TypeInfo}{z v D:Value}{xs:List Value}(A:P.underlying t=some (.slice e))(hi:P.info? e=some i)(E:i.zero=some z)
  (b:i.size=1) (k:w.ownsRow r e 1 v n xs) (a:Addr) (m c:Nat) (M:m≠0) (d:List Value) (K:d.length=m) (f:∀ j u,d[j]? = some u->w.cell? (a.add j)=some u) (F:∀ u∈d,u.oneCell'=true)
  (y:n+m<=maxLen) (h:(n+m)*i.bytes<=140737488355328)
  (hr:(Builtin.append_ #[t,t] s #[v,.slice (some a) m c]).run P w=.ok D w'):D.ownBlock=v.ownBlock\/D.ownBlock=some w.heap.size:=by
 have C:xs.length=n:=by simpa using k.1
 have o:=y;simp only[maxLen] at o
 rcases k.2 with⟨rfl,rfl⟩|⟨g,cap,x,rfl,G,J,L,H,I,B⟩
 ·right
  have l:=run_append_nil (P:=P) w t s e i z A hi E a m c d (by rw[b];omega) f (by omega) (by omega) (by have hb:=h;simp only[Nat.zero_add] at hb;omega);rw[l] at hr
  cases hr
  rfl
 ·by_cases q:n+m<=cap
  ·left
   have l:=run_append_room (P:=P) w t s e i A hi g n cap x J a m c d (by rw[b];omega) f F q (by rw[b,K];omega);rw[l] at hr
   cases hr
   rfl
  ·right
   have p:∀ j u,xs[j]? = some u->w.cell? ((⟨g,0,none⟩:Addr).add j)=some u:=k.cells (g:=g) rfl;have l:=run_append_grow (P:=P) w t s e i z A hi E ⟨g,0,none⟩ n cap xs (by rw[b];simpa using C) p a m c d (by rw[b];omega) f (by omega) (by omega) (growslice_fits (by omega) h);rw[l] at hr
   cases hr
   rfl
theorem yej {P:Program}{w:World}{y:Array Oper}{rest:List Oper}{o:Oper}{a:Act}{Q:Exit->Act->World->Prop}(B:o.guard=none)(s x:Operand)(t:TypeId)
  (M:o.op=.call { callee:=.builtin .append,args:=#[s,x],argTypes:=#[t,t] })
  (d:Nat) (e:TypeId) (i:TypeInfo) (z:Value) (E:P.underlying t=some (.slice e)) (hi:P.info? e=some i) (F:i.zero=some z)
  (k:i.size=1) (C:z.cells.size=1)
  (v:Value) (n:Nat) (xs:List Value) (N:a.eval s=v) (l:w.ownsRow d e 1 v n xs)
  (A:Addr) (m c:Nat) (L:m≠0) (b:List Value) (O:a.eval x=.slice (some A) m c) (J:b.length=m) (g:∀ j u,b[j]? = some u->w.cell? (A.add j)=some u) (D:∀ u∈b,u.oneCell'=true)
  (r:n+m<=maxLen) (f:(n+m)*i.bytes<=140737488355328) (p:d<=w.heap.size)
  (h:∀ q w',w'.ownsRow d e 1 q (n+m) (xs++b)->w.grownBy w' v.ownBlock->(q.ownBlock=v.ownBlock\/q.ownBlock=some w.heap.size)->wpList P y Q rest (a.put o.dst q) w'):wpList P y Q (o::rest) a w:=by
 refine wpList_plain B fun K hK=>?_;obtain⟨q,w',hr,G,H,R⟩:=run_append_own (P:=P) w d t o.type e i z 1 i.bytes E hi F k rfl C (by omega) v n xs l A m c b (by omega) g D r f p;have I:=ygl E hi F k l A m c L b J g D r f hr;unfold Oper.wp execOp;simp only[M,resolve,invoke,builtin,Sem.run_bind,Sem.run_pure,Result.andThen_ok,List.map_toArray,List.map_cons,List.map_nil,N,O,hr];exact hK _ _ (h q w' G H I)
theorem yqf (w:World)(v:Value)(t:TypeId):∀ j u,[v][j]? = some u->(w.alloc (.cells #[v] t)).cell? ((⟨w.heap.size,0,none⟩:Addr).add j)=some u:=by
 intro j u h
 cases j with
 | zero=>
  simp at h;subst h
  show(w.alloc (.cells #[v] t)).cell? ⟨w.heap.size,0+0,none⟩=some v
  unfold World.cell?;rw[ym];rfl
 | succ j=>simp at h
theorem yql {w:World}{p:Nat}{st:RS}{c:UInt8}(F:RAt w p st)(R:st.out.length+1<=70368744177664) :
  Calls Tryz.prog 103 #[.pointer (some ⟨p,3,none⟩),.int .u8 (c.toNat:Int)] w fun e w'=>e=.returned .nilIface/\RAt w' p { st with out:=st.out++[c] }/\Upd p w w':=by
 obtain⟨i0,hi,y,z,A⟩:=info_parts Tryz.infoByte
 go_enter Tryz.func103,Tryz.ntmps103
 go_wp2_with(first|(go_at_call 132;refine(yhn F).mono ?_;rintro e B ⟨rfl,l,⟨m,o,q⟩,t⟩;have c4:B.cell? ⟨p,4,none⟩=some l:=ja m 4 (by simp[ju]);have O:=t.size;have N:=F.lt;have C:=lh m;have H:=lh t;have D:=lh q;have Q:=lh o;clear m t q o)|(at_builtin;refine yej rfl _ _ 22 rfl (p+1) 5 i0 (.int .u8 0) Tryz.underlying22 hi y z (by decide) _ st.out.length (je st.out) rfl (D.out.alloc _) ⟨B.heap.size,0,none⟩ 1 1 (by omega) [.int .u8 (c.toNat:Int)] rfl rfl ?c1 ?c2 ?c3 ?c4 ?c5 ?_))
 case c1=>exact yqf _ _ _
 case c2=>simp[Value.oneCell']
 case c3=>unfold maxLen;omega
 case c4=>rw[A];omega
 case c5=>simp;omega
 intro P s b a d;have v:l.ownBlock≠some p:=fun h=>by have:=yaq D.out p h;omega
 have f:s.heap[p]? = some (.cells (ju st (some ⟨p,3,none⟩) l).toArray 104 (0,0)):=by
  rw[a.block p (by simp;omega) (Ne.symm v)];rw[<-C.out];exact Below.heap_alloc _ _ _ (by omega)
 have K:s.cell? ⟨p,4,none⟩=some l:=ja f 4 (by simp[ju]);have M:s.frozen? ⟨p,4,none⟩=false:=zz f 4;obtain⟨ao,n,cap,rfl⟩:∃ ao n cap,P=.slice ao n cap:=by
  rcases b.2 with⟨x,_⟩|⟨g,cap,L,x,_⟩
  ·exact⟨none,0,0,x⟩
  ·exact⟨_,_,_,x⟩
 have i:=lh a;have G:=lh b;have E:=lh f;have I:=lh d;clear a b d f;go_wp2;go_ret;have u:je (st.out++[c])=je st.out++[.int .u8 (c.toNat:Int)]:=by simp[je]
 refine⟨rfl,⟨some ⟨p,3,none⟩,.slice ao n cap,?_,.inr rfl,?_,?_⟩,?_⟩
 ·rw[zb E.out];rfl
 ·intro h;simp at h
 ·rw[List.length_append,u];exact ownsRow_setCell_below G.out (by simp) _
 ·have b1:jn B p=l.ownBlock:=by unfold jn;rw[C.out];rfl
  have J:jn (s.setCell ⟨p,4,none⟩ (.slice ao n cap)) p=(Value.slice ao n cap).ownBlock:=by unfold jn;rw[zb E.out];rfl
  have j:=i.out.size;refine H.out.trans ⟨i.out.os,i.out.tape,i.out.output,by simp[World.setCell];simp at j;omega,fun k m o q=>?_,fun k r=>?_⟩
  ·rw[Below.heap_setCell _ _ _ _ o,i.out.block k (by simp;omega) (fun h=>q (by rw[b1,<-h]))]
   exact Below.heap_alloc _ _ _ (by omega)
  ·rw[J] at r
   rcases I.out with h|h
   ·exact .inl (by rw[b1,<-h];exact r)
   ·rw[h] at r;simp at r;exact .inr (by omega)
theorem yif {w:World}{p:Nat}{st:RS}{c:UInt8}(a:RAt w p st)(o:st.out.length+1<=70368744177664) :
  Calls Tryz.prog 72 #[.pointer (some ⟨p,0,none⟩),.int .u8 (c.toNat:Int)] w fun e w'=>Ret p w (st.wr [c]) (.tuple #[]) e w':=by
 have n:=a.skip;have t:=a.max;have q:=a.last;have r:=a.free 5;have s:=a.free 7
 by_cases j:st.skip=true
 ·have i:st.wr [c]=st:=by unfold RS.wr;rw[if_pos j]
  rw[i];rw[j] at n
  go_enter Tryz.func72,Tryz.ntmps72
  go_wp2;go_end0
  exact⟨rfl,a,Upd.refl p w⟩
 ·have d:st.skip=false:=by simpa using j
  rw[d] at n;clear j;have b:=ynu a
  by_cases g:0 < st.max/\st.max < st.out.length
  ·have i:st.wr [c]={ st with skip:=true }:=by unfold RS.wr;rw[if_neg (by rw[d];simp),if_pos g]
   rw[i];have h:decide (0 < st.max)=true:=by simpa using g.1
   have k:decide (st.max < (st.out.length:Int))=true:=by simpa using g.2
   clear g
   go_enter Tryz.func72,Tryz.ntmps72
   go_wp2
   go_quiet (first|(go_at_call 101;refine Calls.quiet_of_same (b _)))
   go_wp2;go_end0
   exact⟨rfl,(a.drewN' _).set_skip true,((Upd.refl p w).drewN _).set 5 _ (by omega)⟩
  ·have f:(decide (0 < st.max)=false\/decide (0 < st.max)=true/\decide (st.max < (st.out.length:Int))=false):=by
    simp only[decide_eq_false_iff_not,decide_eq_true_eq];omega
   have i:st.wr [c]={ st with out:=st.out++[c],last:=(c.toNat:Int) }:=by unfold RS.wr;rw[if_neg (by rw[d];simp),if_neg g,if_neg (by simp)];rfl
   rw[i];clear g
   rcases f with h|⟨h,k⟩
   all_goals
    go_enter Tryz.func72,Tryz.ntmps72
    go_wp2
    go_quiet (first|(go_at_call 101;refine Calls.quiet_of_same (b _)))
    go_wp2_with(go_at_call 103;refine(yql ((a.drewN' _).set_last (c.toNat:Int)) o).mono ?_;rintro e u ⟨rfl,l,m⟩)
    go_end0;exact⟨rfl,l,(((Upd.refl p w).drewN _).set 7 _ (by omega)).trans m⟩
theorem ylv (u : Nat) (a : u < 18446744073709551616) (w : World) (i : Lib.TabIs Tryz.prog w "internal/strconv.uint64pow10" .u64 Lib.pow10Tab) :
  Calls Tryz.prog 186 #[.int .u64 u,.int .i64 10] w fun e w'=>e=.returned (.string ⟨(Lib.decDigits u).toArray⟩)/\Below w.heap.size w w':=by
 by_cases v:u < 100
 ·go_enter Tryz.func186,Tryz.ntmps186
  go_wp2_with(go_at_call 176;refine(Tryz.internal_strconv_small u v _).mono ?_;rintro e w' ⟨rfl,rfl⟩)
  go_ret;exact⟨rfl,Below.refl _ _⟩
 ·have l:1<=u:=by omega
  have p:Lib.nDigits u<=20:=by have:=Lib.numDigits_eq u l a;split at this<;>omega
  have s:Lib.nDigits u<=24:=by omega
  have g:Tryz.prog.arrayLen 158=24:=by kernel_rfl
  have q:∀ W,(Instr.sliceAt 158 (.pointer (some ⟨w.heap.size,0,none⟩)) none (some (.int .i64 (Lib.nDigits u:Int))) none).run Tryz.prog W=.ok (.slice (some ⟨w.heap.size,0,none⟩) (Lib.nDigits u) 24) W:=fun W=>by
   rw[run_sliceAt_array_h W 158 ⟨w.heap.size,0,none⟩ (by simp[Program.arrayLen,Program.elem,Tryz.underlying158]) .i64 (Lib.nDigits u:Int) (by omega) (by rw[g];omega)]
   go_simp
  have d:=Lib.holds_zero0 w 158 (Lib.nDigits u) (by omega);have c:=Tryz.internal_strconv_formatBase10 w.heap.size 0 24 u (Array.replicate (Lib.nDigits u) 0) (w.alloc (.cells Lib.zeros24 158)) d (by rw[Array.size_replicate];exact Lib.lt_pow_nDigits u) a (by rw[Array.size_replicate];omega);rw[Array.size_replicate] at c;have m:=lh d;clear d g
  go_enter Tryz.func186,Tryz.ntmps186
  go_wp2_with(first
   | (go_at_call 177;refine(Tryz.internal_strconv_numDigits u l a _ (Lib.tabIs_alloc i _)).mono ?_;rintro e w' ⟨rfl,rfl⟩))
  go_at_call 178
  refine c.mono ?_;rintro e w' ⟨rfl,k,x,f,rfl,n⟩;have t:(convert 22 9 (.slice (some ⟨w.heap.size,0,none⟩) (Lib.nDigits u) 24)).run Tryz.prog ((Sort.putRow (fun(b:UInt8)=>Value.int .u8 (b.toNat:Int)) (w.alloc (.cells Lib.zeros24 158)) w.heap.size 0 f).drewN k)=.ok (.string ⟨(Lib.decDigits u).toArray⟩) ((Sort.putRow (fun(b:UInt8)=>Value.int .u8 (b.toNat:Int)) (w.alloc (.cells Lib.zeros24 158)) w.heap.size 0 f).drewN k):=by
   have h:=run_convert_bytes_back (P:=Tryz.prog) ((Sort.putRow (fun(b:UInt8)=>Value.int .u8 (b.toNat:Int)) (w.alloc (.cells Lib.zeros24 158)) w.heap.size 0 f).drewN k) 22 9 5 ⟨w.heap.size,0,none⟩ 24 (Lib.decDigits u) Tryz.underlying22 Tryz.underlying5 Tryz.underlying9 (fun j o=>by
    rw[Lib.row_is_numeral n j o,Lib.add_plain,World.cell?_drewN];exact Sort.cell?_putRow (fun(b:UInt8)=>Value.int .u8 (b.toNat:Int)) _ w.heap.size 0 _ f m.out (by rw[n.size,Array.size_replicate]) j (by rw[n.size];rw[Lib.decDigits_length] at o;exact o))
   rw[Lib.decDigits_length] at h;exact h
  go_wp2;go_ret
  obtain⟨os,r⟩:=Lib.fin_at w (.cells Lib.zeros24 158) f k 0;exact⟨rfl,by show Below _ w ((Sort.putRow (fun(b:UInt8)=>Value.int .u8 (b.toNat:Int)) (w.alloc (.cells Lib.zeros24 158)) w.heap.size 0 f).drewN k);rw[r];exact Lib.below_grow _ _ (Nat.le_refl _) _ _⟩
theorem yb8 (u : Nat) (b : u < 18446744073709551616) (w : World) (a : Lib.TabIs Tryz.prog w "internal/strconv.uint64pow10" .u64 Lib.pow10Tab) :
  Calls Tryz.prog 172 #[.int .u64 u,.int .i64 10] w fun e w'=>e=.returned (.string ⟨(Lib.decDigits u).toArray⟩)/\Below w.heap.size w w':=by
 have H:=lh (ylv u b w a);clear a
 go_enter Tryz.func172,Tryz.ntmps172
 go_wp2_with(go_at_call 186;refine H.out.mono ?_;rintro e w' ⟨rfl,hb⟩)
 go_ret;exact⟨rfl,hb⟩
theorem yc1 (n : Nat) (b : n <= 9223372036854775807) (w : World) (a : Lib.TabIs Tryz.prog w "internal/strconv.uint64pow10" .u64 Lib.pow10Tab) :
  Calls Tryz.prog 127 #[.int .i64 n,.int .i64 10] w fun e w'=>e=.returned (.string ⟨(Lib.decDigits n).toArray⟩)/\Below w.heap.size w w':=by
 refine(Tryz.strconv_FormatInt_10 (n:Int) (by omega) (by omega) w a).mono ?_;rintro e w' ⟨rfl,k,os,rfl⟩;exact⟨by rw[Lib.itoa_nonneg],Lib.below_grow _ _ (Nat.le_refl _) _ _⟩
structure Env (p:Nat)(w:World):Prop where
 tab : ∀ w', Below p w w' -> Lib.TabIs Tryz.prog w' "internal/strconv.uint64pow10" .u64 Lib.pow10Tab
 bas:∀ w',Below p w w'->∃ bm,w'.cell? ⟨3,0,none⟩=some (.map (some bm))/\
  ∀ c:UInt8,(Instr.lookup 156 (.map (some bm)) (.int .u8 (c.toNat:Int)) true).run Tryz.prog w'=.ok (.tuple #[.string ⟨((kw c).getD []).toArray⟩,.bool (kw c).isSome]) w'
theorem Env.below {p:Nat}{w w':World}(h:Env p w)(hb:Below p w w'):Env p w':=
 ⟨fun b a=>h.tab b (hb.trans a),fun b a=>h.bas b (hb.trans a)⟩
theorem ykn {p:Nat}{w w':World}{st:RS}(c:RAt w p st)(a:Upd p w w'):Below p w w':=by
 refine⟨a.os,a.tape,a.output,a.size,fun k e=>a.block k (Nat.lt_trans e c.lt) (by omega) fun hb=>?_⟩;obtain⟨b,g,d,-,-,f⟩:=c;have:g.ownBlock=some k:=by unfold jn at hb;rw[d] at hb;exact hb
 have:=yaq f k this;omega
theorem Env.upd {p:Nat}{w w':World}{st:RS}(h:Env p w)(a:RAt w p st)(b:Upd p w w'):Env p w':=h.below (ykn a b)
theorem Env.at {p : Nat} {w : World} (h : Env p w) : Lib.TabIs Tryz.prog w "internal/strconv.uint64pow10" .u64 Lib.pow10Tab := h.tab w (Below.refl _ w)
structure RS.Wg (st:RS):Prop where
 o0:0<=st.off
 o1:st.off+st.str.length<=st.orig.length
 o2:st.orig.length<=4294967296
 l0:0<=st.life
 l1:st.life<=8589934592
theorem RS.Wg.wf {st:RS}(h:st.Wg):st.Wf:=⟨h.o0,by have:=h.o1;have:=h.o2;omega⟩
theorem RS.Wg.go {st:RS}(h:st.Wg){r:List UInt8}(hr:r.length<=st.str.length):(st.go r).Wg:=by
 obtain⟨d,e,a,b,c⟩:=h;exact⟨by simp only[RS.go];omega,by simp only[RS.go];omega,a,b,c⟩
theorem RS.Wg.same {st s:RS}(h:st.Wg)(f:s.off=st.off)(j:s.str=st.str)(g:s.orig=st.orig)(i:s.life=st.life):s.Wg:=by
 obtain⟨a,b,c,d,e⟩:=h;exact⟨by rw[f];exact a,by rw[f,j,g];exact b,by rw[g];exact c,by rw[i];exact d,by rw[i];exact e⟩
theorem yax (st:RS)(s:List UInt8):(st.wr s).life=st.life:=by
 unfold RS.wr;split
 ·rfl
 ·split
  ·rfl
  ·split<;>rfl
theorem yjs (st:RS)(s:List UInt8):(st.wr s).orig=st.orig:=by
 unfold RS.wr;split
 ·rfl
 ·split
  ·rfl
  ·split<;>rfl
theorem RS.Wg.wr {st:RS}(h:st.Wg)(s:List UInt8):(st.wr s).Wg:=h.same (yqr _ _) (ymq _ _) (yjs _ _) (yax _ _)
def yib (p:Nat)(w:World)(x:Option RS)(e:Ending)(w':World):Prop:=
 match x with
 | some s=>Ret p w s (.tuple #[]) e w'/\s.Wg
 | none=>va p w e w'
theorem va.from {p:Nat}{w a w':World}{e:Ending}(f:Upd p w a)(h:va p a e w'):va p w e w':=by
 obtain⟨m,o,st,b,c,d⟩:=h;exact⟨m,o,st,b,c,f.trans d⟩
theorem ye0 {s:List UInt8}{st:RS}{α:Type}{f:RS->Option (Option α)}{x:Option α}(h:ye (wS s st) f=some x):st.out.length+s.length<=35184372088832/\f (st.wr s)=some x:=by
 unfold wS at h
 split at h
 ·rename_i a;exact⟨a,h⟩
 ·cases h
theorem ve (x:Option (Option RS)):ye x (fun s=>some (some s))=x:=by
 rcases x with _|_|s<;>rfl
theorem yp {α β γ:Type}(y:Option (Option α))(f:α->Option (Option β))(g:β->Option (Option γ)):ye (ye y f) g=ye y fun a=>ye (f a) g:=by
 rcases y with _|_|a<;>rfl
theorem zv {Q:Ending->World->Prop}{w:World}{p:Nat}{st:RS}{α:Type}{f:RS->Option (Option α)}{x:Option α}(s:List UInt8)(c:RAt w p st)(g:st.Wg)(h:ye (wS s st) f=some x)
  (k:∀ w',RAt w' p (st.wr s)->(st.wr s).Wg->Upd p w w'->f (st.wr s)=some x->Q (.returned (.tuple #[])) w') :
  Calls Tryz.prog 71 #[.pointer (some ⟨p,0,none⟩),.string ⟨s.toArray⟩] w Q:=by
 obtain⟨i,d⟩:=ye0 h;refine(ygh c (by omega)).mono ?_;rintro e w' ⟨rfl,a,b⟩;exact k w' a (g.wr s) b d
theorem zt {Q:Ending->World->Prop}{w:World}{p:Nat}{st:RS}{α:Type}{f:RS->Option (Option α)}{x:Option α}(c:UInt8)(d:RAt w p st)(h:st.Wg)(j:ye (wS [c] st) f=some x)
  (k:∀ w',RAt w' p (st.wr [c])->(st.wr [c]).Wg->Upd p w w'->f (st.wr [c])=some x->Q (.returned (.tuple #[])) w') :
  Calls Tryz.prog 72 #[.pointer (some ⟨p,0,none⟩),.int .u8 (c.toNat:Int)] w Q:=by
 obtain⟨i,g⟩:=ye0 j;refine(yif d (by simp at i;omega)).mono ?_;rintro e w' ⟨rfl,a,b⟩;exact k w' a (h.wr _) b g
theorem yb9 {w:World}{p:Nat}{st:RS}{c:UInt8}{x:Option RS}(k:RAt w p st)(t:st.Wg) (l:∃ b,∀ w,(convert 5 9 (.int .u8 (c.toNat:Int))).run Tryz.prog w=.ok (.string b) w/\b.size<=8) (g:yb0 c st=some x) :
  Calls Tryz.prog 129 #[.pointer (some ⟨p,0,none⟩),.int .u8 (c.toNat:Int)] w fun e w'=>yib p w x e w':=by
 obtain⟨b,hb⟩:=l;have s:∀ w,(convert 5 9 (.int .u8 (c.toNat:Int))).run Tryz.prog w=.ok (.string b) w:=fun w=>(hb w).1;have v:=(hb w).2;clear hb;unfold yb0 at g
 cases i:st.str with
 | nil=>
  rw[i] at g;have n:w.cell? ⟨p,1,none⟩=some (.string ⟨#[]⟩):=by have h:=k.str;rw[i] at h;exact h
  obtain rfl:x=none:=(Option.some.inj g).symm;clear i g
  go_enter Tryz.func129,Tryz.ntmps129
  go_wp2_with(go_at_call 70;refine(yu k).mono ?_;rintro e u ⟨m,o,j,rfl,a,f⟩)
  exact⟨rfl,m,o,j,rfl,a,f⟩
 | cons d r=>
  rw[i] at g;have n:w.cell? ⟨p,1,none⟩=some (.string ⟨(d::r).toArray⟩):=by have h:=k.str;rw[i] at h;exact h
  by_cases hd:d=c
  ·obtain rfl:x=some (st.go r):=by simp only[hd,if_true] at g;exact(Option.some.inj g).symm
   subst hd;have q:=lh i;clear i g
   go_enter Tryz.func129,Tryz.ntmps129
   go_wp2_with(go_at_call 123;refine(yh k t.wf q).mono ?_;rintro e u ⟨rfl,a,f⟩)
   go_end0;exact⟨⟨rfl,a,f⟩,t.go (by rw[q.out];simp)⟩
  ·obtain rfl:x=none:=by simp only[hd,if_false] at g;exact(Option.some.inj g).symm
   have y:((d.toNat:Int) != (c.toNat:Int))=true:=by simp;intro h;exact hd (UInt8.toNat_inj.1 (by omega))
   clear i g hd
   go_enter Tryz.func129,Tryz.ntmps129
   go_wp2_with(go_at_call 70;refine(yu k).mono ?_;rintro e u ⟨m,o,j,rfl,a,f⟩)
   exact⟨rfl,m,o,j,rfl,a,f⟩
theorem ybr {w:World}{p:Nat}{st:RS}{h:Int}{x:Option RS}(A:RAt w p st)(q:st.Wg)(k:yb3 h st=some x) :
  Calls Tryz.prog 150 #[.pointer (some ⟨p,0,none⟩),.int .i64 h] w fun e w'=>yib p w x e w':=by
 unfold yb3 at k
 by_cases l:h < 0\/4611686018427387904 < h
 ·rw[if_pos l] at k;cases k
 rw[if_neg l] at k;have z:0<=h/\h<=4611686018427387904:=by omega
 obtain⟨F,G⟩:=z;clear l;have C:=q.l0;have D:=q.l1
 go_enter Tryz.func150,Tryz.ntmps150
 go_wp2_with fail
 refine zt 39 A q k ?_;intro H d j i a;clear k;have r:=d.life;rw[yax] at r a
 by_cases u:h=0
 ·subst u
  rw[if_pos rfl,<-ve (wS [95] _)] at a
  go_wp2_with fail
  refine zt 95 d j a ?_;intro t b f c g;obtain rfl:=Option.some.inj g;go_wp2;go_end0;exact⟨⟨rfl,b,i.trans c⟩,f⟩
 ·rw[if_neg u] at a
  by_cases v:st.life-h < 0
  ·rw[if_pos v] at a
   obtain rfl:=Option.some.inj a
   go_wp2_with(go_at_call 70;refine(yu d).mono ?_;rintro e t ⟨m,o,s,rfl,b,c⟩)
   exact⟨rfl,m,o,s,rfl,b,i.trans c⟩
  ·rw[if_neg v] at a
   by_cases y:st.life-h < 26
   ·rw[if_pos y,<-ve (wS _ _)] at a
    have B:((UInt8.ofNat (97+(st.life-h).toNat)).toNat:Int)=97+(st.life-h):=by simp[UInt8.toNat_ofNat'];omega
    go_wp2_with fail
    rw[<-B];refine zt _ d j a ?_;intro t b f c g;obtain rfl:=Option.some.inj g;go_wp2;go_end0;exact⟨⟨rfl,b,i.trans c⟩,f⟩
   ·rw[if_neg y] at a
    by_cases n:(st.wr [39]).skip=true
    ·rw[if_pos n,<-ve (wS _ _)] at a
     go_wp2_with fail
     refine zt 122 d j a ?_;intro t b f c g;obtain rfl:=Option.some.inj g;have E:=b.skip;rw[(show((st.wr [39]).wr [122]).skip=true by unfold RS.wr at n |-;(repeat' split)<;>simp_all)] at E
     go_wp2;go_end0
     exact⟨⟨rfl,b,i.trans c⟩,f⟩
    ·rw[if_neg n] at a;cases a
theorem ji {P:Program}{fn:FuncId}{args:Array Value}{Q:Ending->World->Prop}{w:World}{p:Nat}{α:Type}{f:RS->Option (Option α)}{x:Option α}{y:Option (Option RS)}
  (b:∀ z,y=some z->Calls P fn args w fun e w'=>yib p w z e w') (a:ye y f=some x)
  (i:∀ e w',va p w e w'->x=none->Q e w') (k:∀ s w',y=some (some s)->RAt w' p s->s.Wg->Upd p w w'->f s=some x->Q (.returned (.tuple #[])) w'):Calls P fn args w Q:=by
 rcases y with _|_|s
 ·cases a
 ·refine(b none rfl).mono fun e w' h=>i e w' h ?_
  exact(Option.some.inj a).symm
 ·refine(b (some s) rfl).mono ?_
  rintro e w' ⟨⟨rfl,c,d⟩,g⟩;exact k s w' rfl c g d a
theorem yd9 {Q:Ending->World->Prop}{w:World}{p:Nat}{st:RS}(d:RAt w p st)(c:st.Wg)
  (f:∀ e w',va p w e w'->b62 st.str=none->Q e w') (k:∀ v r w',b62 st.str=some (v,r)->RAt w' p (st.go r)->(st.go r).Wg->Upd p w w'->Q (.returned (.int .i64 v)) w') :
  Calls Tryz.prog 149 #[.pointer (some ⟨p,0,none⟩)] w Q:=by
 refine(yhy d c.wf).mono ?_;intro e w' h
 rcases hb:b62 st.str with _|⟨v,r⟩
 ·rw[hb] at h;exact f e w' h hb
 ·rw[hb] at h
  obtain⟨rfl,a,b⟩:=h;exact k v r w' hb a (c.go (Nat.le_of_lt (ygt hb))) b
theorem yi2 {c:Int}{st s:RS}(h:yb3 c st=some (some s)):s.life=st.life:=by
 unfold yb3 at h
 split at h
 ·cases h
 ·obtain⟨_,h⟩:=ye0 h
  have hw:∀ {t:List UInt8} {a b:RS},wS t a=some (some b)->b.life=a.life:=fun {t a b} h=>by
   rw[<-ve (wS t a)] at h;obtain⟨_,h⟩:=ye0 h;obtain rfl:=Option.some.inj (Option.some.inj h);exact yax _ _
  split at h
  ·rw[hw h,yax]
  ·split at h
   ·cases h
   ·split at h
    ·rw[hw h,yax]
    ·split at h
     ·rw[hw h,yax]
     ·cases h
theorem yht {w:World}{p:Nat}{st:RS}{x:Option RS}(U:RAt w p st)(S:st.Wg)(b:yay st=some x) :
  Calls Tryz.prog 173 #[.pointer (some ⟨p,0,none⟩)] w fun e w'=>yib p w x e w':=by
 unfold yay at b
 cases I:st.str with
 | nil=>
  rw[I] at b;have aa:w.cell? ⟨p,1,none⟩=some (.string ⟨#[]⟩):=by have h:=U.str;rw[I] at h;exact h
  obtain rfl:x=some st:=(Option.some.inj b).symm;clear I b
  go_enter Tryz.func173,Tryz.ntmps173
  go_wp2;go_end0
  exact⟨⟨rfl,U,Upd.refl p w⟩,S⟩
 | cons d r=>
  rw[I] at b;have aa:w.cell? ⟨p,1,none⟩=some (.string ⟨(d::r).toArray⟩):=by have h:=U.str;rw[I] at h;exact h
  by_cases hd:d=71
  ·subst hd
   simp only[if_true] at b;have HS:=lh I;clear I
   go_enter Tryz.func173,Tryz.ntmps173
   go_wp2_with fail
   refine(yh U S.wf HS).mono ?_;rintro e w1 ⟨rfl,V,J⟩;have X:(st.go r).Wg:=S.go (by rw[HS.out];simp)
   go_wp2_with fail
   refine yd9 V X ?_ ?_
   ·intro e w2 T hb
    rw[show b62 r=none from hb] at b;obtain rfl:=(Option.some.inj b);obtain⟨m,o,j,rfl,f,E⟩:=T;go_wp2;exact⟨rfl,m,o,j,rfl,f,J.trans E⟩
   ·intro v H w2 hb f k E
    rw[show b62 r=some (v,H) from hb] at b;rw[RS.go_go] at f k;simp only at b;have hU:=J.trans E;clear J E
    by_cases h0:v < 0\/4611686018427387904 < v
    ·rw[if_pos h0] at b;cases b
    rw[if_neg h0] at b;have a6:0<=v:=by omega
    have a7:v<=4611686018427387904:=by omega
    clear h0;have k1:=f.str;have k2:=f.life;have a2:=S.l0;have a3:=S.l1;have a4:(H.length:Int)<=4294967296:=by have:=k.o1;have:=k.o2;have:=k.o0;simp only[RS.go] at *;omega
    rw[show(st.go H).str=H from rfl] at k1;rw[show(st.go H).life=st.life from rfl] at k2
    by_cases h1:v+1≥(H.length:Int)-st.life
    ·rw[if_pos h1] at b
     obtain rfl:=(Option.some.inj b);go_wp2
     go_quiet (fail)
     go_wp2_with(go_at_call 70;refine(yu (f.drewN' _)).mono ?_;rintro e w3 ⟨m,o,j,rfl,D,F⟩)
     exact⟨rfl,m,o,j,rfl,D,(hU.drewN _).trans F⟩
    ·rw[if_neg h1] at b
     have ay:v+1 < (H.length:Int)-st.life:=by omega
     go_wp2
     go_quiet (fail)
     go_wp2_with fail
     refine zv [102,111,114,60] (f.drewN' _) k b ?_;intro w3 D Y F ac;have q:=(hU.drewN nq).trans F;have aw:((st.go H).wr [102,111,114,60]).life=st.life:=by rw[yax];rfl
     clear b hU F k1 k2 hb HS aa;generalize (st.go H).wr [102,111,114,60]=s3 at *;have HX:=lh ac;clear ac;go_wp2
     go_loopg [3] (v+1).toNat (fun gk vv wr=>∃ (i:Int) (s:RS),vv=.int .i64 i/\Hid (i+gk=v+1/\0<=i)/\RAt wr p s/\s.Wg/\Hid (s.life=st.life+i)/\Hid ((ye (yaj gk (decide (i=0)) s) fun s=>wS [62,32] s)=some x)/\Upd p w wr)
     case atStart=>exact⟨0,s3,rfl,⟨by omega,by omega⟩,D,Y,by show _=_;omega,HX.out,q⟩
     case round=>
      obtain⟨i,s,rfl,ai,n,A,O,ad,u⟩:=hrel;clear D Y V X f k HX q;obtain⟨a0,a1⟩:=ai.out
      cases gk with
      | zero=>
       have L:i=v+1:=by omega
       subst L;have a:=ad.out;rw[show(yaj 0 _ s)=some (some s) from rfl,bindM_ok,<-ve (wS _ _)] at a
       go_wp2_with fail
       refine zv [62,32] n A a ?_;intro w4 l y c B;obtain rfl:=Option.some.inj B;go_wp2;go_end0;exact⟨⟨rfl,l,u.trans c⟩,y⟩
      | succ gk=>
       have aj:=O.out;have a:=ad.out;unfold yaj at a;rw[yp] at a;have Z:∀ t:RS,t.Wg->t.life=s.life->(RS.Wg { t with life:=t.life+1 }):=fun t ht h=>⟨ht.o0,ht.o1,ht.o2,by show 0<=t.life+1;omega,by show t.life+1<=_;omega⟩;have f6:=n.free 6;have aq:=A.l0;have ar:=A.l1;clear aj
       by_cases G:i=0
       ·rw[show decide (i=0)=true by simp[G],if_pos rfl,bindM_ok,yp] at a
        have C:=a;have al:=n.life;have L:¬ (0 < i):=by omega
        clear a G
        go_wp2_with fail
        refine ji (fun z h=>ybr (n.set_life (s.life+1)) (Z s A rfl) h) C ?_ ?_
        ·intro e w5 T P
         subst P;obtain⟨m,o,j,rfl,g,c⟩:=T;go_wp2;exact⟨rfl,m,o,j,rfl,g,((u).set 6 _ (by omega)).trans c⟩
        ·intro s5 w5 R g K c Q
         have N:=yi2 R;have M:decide (i+1=0)=false:=by simp;omega
         go_wp2
         go_roundg gk
         case measure=>omega
         case rel=>exact⟨i+1,s5,by go_num,⟨by omega,by omega⟩,g,K,by have:=O.out;show s5.life=_;rw[N];show s.life+1=_;omega,by rw[M];exact Q,((u).set 6 _ (by omega)).trans c⟩
       ·rw[show decide (i=0)=false by simp[G],if_neg (by simp)] at a
        have L:0 < i:=by omega
        clear G
        go_wp2_with fail
        refine zv [44,32] n A a ?_;intro w4 l y q B;rw[yp] at B;have C:=B;have al:=l.life;have ab:=lh (yax s [44,32]);have au:=y.l0;have av:=y.l1;have ax:=l.free 6;have W:=u.trans q;generalize a5:s.wr [44,32]=s4 at *;clear a B q u
        go_wp2_with fail
        refine ji (fun z h=>ybr (l.set_life (s4.life+1)) (Z s4 y ab.out) h) C ?_ ?_
        ·intro e w5 T P
         subst P;obtain⟨m,o,j,rfl,g,c⟩:=T;go_wp2;exact⟨rfl,m,o,j,rfl,g,((W).set 6 _ (by omega)).trans c⟩
        ·intro s5 w5 R g K c Q
         have N:=yi2 R;have M:decide (i+1=0)=false:=by simp;omega
         go_wp2
         go_roundg gk
         case measure=>omega
         case rel=>exact⟨i+1,s5,by go_num,⟨by omega,by omega⟩,g,K,by have:=O.out;show s5.life=_;rw[N];show s4.life+1=_;rw[ab.out];omega,by rw[M];exact Q,((W).set 6 _ (by omega)).trans c⟩
  ·simp only[if_neg hd] at b
   obtain rfl:x=some st:=(Option.some.inj b).symm;have az:((d.toNat:Int) != 71)=true:=by simp;intro h;exact hd (UInt8.toNat_inj.1 (by show d.toNat=71;omega))
   clear I hd b
   go_enter Tryz.func173,Tryz.ntmps173
   go_wp2;go_end0
   exact⟨⟨rfl,U,Upd.refl p w⟩,S⟩
theorem Env.look {p:Nat}{w:World}(d:Env p w)(c:UInt8):∃ bm,w.cell? ⟨3,0,none⟩=some (.map (some bm))/\
  ∀ n,(Instr.lookup 156 (.map (some bm)) (.int .u8 (c.toNat:Int)) true).run Tryz.prog (w.drewN n)=.ok (.tuple #[.string ⟨((kw c).getD []).toArray⟩,.bool (kw c).isSome]) (w.drewN n):=by
 obtain⟨bm,b,e⟩:=d.bas w (Below.refl _ w);refine⟨bm,b,fun n=>?_⟩;obtain⟨a,k1,k2⟩:=d.bas (w.drewN n) ⟨rfl,rfl,rfl,Nat.le_refl _,fun _ _=>rfl⟩;have:a=bm:=by
  have k3:w.cell? ⟨3,0,none⟩=some (.map (some a)):=k1;rw[b] at k3
  simpa using k3.symm
 rw[<-this];exact k2 c
theorem yqj {w:World}{p:Nat}{st:RS}{x:Option RS}(j:RAt w p st)(y:st.Wg)(A:Env p w)(a:yev st=some x) :
  Calls Tryz.prog 147 #[.pointer (some ⟨p,0,none⟩)] w fun e w'=>yib p w x e w':=by
 unfold yev at a
 cases g:st.str with
 | nil=>
  rw[g] at a;have s:w.cell? ⟨p,1,none⟩=some (.string ⟨#[]⟩):=by have h:=j.str;rw[g] at h;exact h
  obtain rfl:x=none:=(Option.some.inj a).symm;clear g a
  go_enter Tryz.func147,Tryz.ntmps147
  go_wp2_with(go_at_call 70;refine(yu j).mono ?_;rintro e z ⟨m,o,i,rfl,b,d⟩)
  exact⟨rfl,m,o,i,rfl,b,d⟩
 | cons c r=>
  rw[g] at a;have s:w.cell? ⟨p,1,none⟩=some (.string ⟨(c::r).toArray⟩):=by have h:=j.str;rw[g] at h;exact h
  obtain⟨bm,B,f⟩:=A.look c;have v:=lh g;clear g;simp only at a
  cases hb:kw c with
  | none=>
   rw[hb] at a f;obtain rfl:x=none:=(Option.some.inj a).symm;simp only[Option.getD_none,Option.isSome_none] at f;clear hb a
   go_enter Tryz.func147,Tryz.ntmps147
   go_wp2
   go_quiet (fail)
   go_wp2_with(go_at_call 70;refine(yu (j.drewN' _)).mono ?_;rintro e z ⟨m,o,i,rfl,b,d⟩)
   exact⟨rfl,m,o,i,rfl,b,((Upd.refl p w).drewN _).trans d⟩
  | some t=>
   rw[hb] at a f;simp only[Option.getD_some,Option.isSome_some] at f;simp only at a;rw[<-ve (wS t _)] at a;clear hb
   go_enter Tryz.func147,Tryz.ntmps147
   go_wp2
   go_quiet (fail)
   go_wp2_with fail
   refine(yh (j.drewN' _) y.wf v).mono ?_;rintro e z ⟨rfl,b,d⟩;have n:(st.go r).Wg:=y.go (by rw[v.out];simp)
   go_wp2_with fail
   refine zv t b n a ?_;intro C k q l u;obtain rfl:=Option.some.inj u;go_wp2;go_end0;exact⟨⟨rfl,k,(((Upd.refl p w).drewN _).trans d).trans l⟩,q⟩
def ysz:Kd->FuncId
 | .path _=>100
 | .type=>126
 | .const=>148
 | .psg=>187
def ynw (p:Nat):Kd->Array Value
 | .path b=>#[.pointer (some ⟨p,0,none⟩),.bool b]
 | _=>#[.pointer (some ⟨p,0,none⟩)]
def yqx (b:Bool):Kd->Value
 | .psg=>.bool b
 | _=>.tuple #[]
def jj (k:Kd)(p:Nat)(w:World)(x:Option (RS×Bool))(e:Ending)(w':World):Prop:=
 match x with
 | some z=>Ret p w z.1 (yqx z.2 k) e w'/\z.1.Wg
 | none=>va p w e w'
def yy (rec:Rec):Prop:=
 ∀ k st x,rec k st=some x->st.Wg->∀ w p,RAt w p st->Env p w->Calls Tryz.prog (ysz k) (ynw p k) w fun e w'=>jj k p w x e w'
theorem ygr {Q:Ending->World->Prop}{rec:Rec}(H:yy rec)(k:Kd){w:World}{p:Nat}{st:RS}{α:Type}{f:RS×Bool->Option (Option α)}{x:Option α}
  (i:RAt w p st) (j:st.Wg) (g:Env p w) (a:ye (rec k st) f=some x)
  (m:∀ e w',va p w e w'->x=none->Q e w') (kk:∀ z w',RAt w' p z.1->z.1.Wg->Upd p w w'->f z=some x->Q (.returned (yqx z.2 k)) w'):Calls Tryz.prog (ysz k) (ynw p k) w Q:=by
 rcases b:rec k st with _|_|z
 ·rw[b] at a;cases a
 ·rw[b] at a
  refine(H k st _ b j w p i g).mono fun e w' h=>m e w' h ?_;exact(Option.some.inj a).symm
 ·rw[b] at a
  refine(H k st _ b j w p i g).mono ?_;rintro e w' ⟨⟨rfl,c,l⟩,d⟩;exact kk z w' c d l a
theorem jt {Q:Ending->World->Prop}{rec:Rec}(H:yy rec){w:World}{p:Nat}{st:RS}{α:Type}{f:RS×Bool->Option (Option α)}{x:Option α}
  (b:RAt w p st) (c:st.Wg) (a:Env p w) (d:ye (rec .type st) f=some x)
  (g:∀ e w',va p w e w'->x=none->Q e w') (kk:∀ z w',RAt w' p z.1->z.1.Wg->Upd p w w'->f z=some x->Q (.returned (.tuple #[])) w') :
  Calls Tryz.prog 126 #[.pointer (some ⟨p,0,none⟩)] w Q:=ygr H .type b c a d g kk
theorem yjd {Q:Ending->World->Prop}{rec:Rec}(H:yy rec){w:World}{p:Nat}{st:RS}{α:Type}{f:RS×Bool->Option (Option α)}{x:Option α}
  (b:RAt w p st) (c:st.Wg) (a:Env p w) (d:ye (rec .const st) f=some x)
  (g:∀ e w',va p w e w'->x=none->Q e w') (kk:∀ z w',RAt w' p z.1->z.1.Wg->Upd p w w'->f z=some x->Q (.returned (.tuple #[])) w') :
  Calls Tryz.prog 148 #[.pointer (some ⟨p,0,none⟩)] w Q:=ygr H .const b c a d g kk
theorem yv0 {Q:Ending->World->Prop}{rec:Rec}(H:yy rec){w:World}{p:Nat}{st:RS}{α:Type}{f:RS×Bool->Option (Option α)}{x:Option α}
  (b:RAt w p st) (c:st.Wg) (a:Env p w) (d:ye (rec .psg st) f=some x)
  (g:∀ e w',va p w e w'->x=none->Q e w') (kk:∀ z w',RAt w' p z.1->z.1.Wg->Upd p w w'->f z=some x->Q (.returned (.bool z.2)) w') :
  Calls Tryz.prog 187 #[.pointer (some ⟨p,0,none⟩)] w Q:=ygr H .psg b c a d g kk
theorem ki {Q:Ending->World->Prop}{rec:Rec}(H:yy rec){b:Bool}{w:World}{p:Nat}{st:RS}{α:Type}{f:RS×Bool->Option (Option α)}{x:Option α}
  (c:RAt w p st) (d:st.Wg) (a:Env p w) (g:ye (rec (.path b) st) f=some x)
  (h:∀ e w',va p w e w'->x=none->Q e w') (kk:∀ z w',RAt w' p z.1->z.1.Wg->Upd p w w'->f z=some x->Q (.returned (.tuple #[])) w') :
  Calls Tryz.prog 100 #[.pointer (some ⟨p,0,none⟩),.bool b] w Q:=ygr H (.path b) c d a g h kk
theorem yem {f:FuncId}(b:f=146){w:World}{p a0 a1:Nat}{st:RS}{h:Bool}(u:FrameMode)(a:RAt w p st)(c0:w.cell? ⟨a0,0,none⟩=some (.bool h)) (c1:w.cell? ⟨a1,0,none⟩=some (.pointer (some ⟨p,0,none⟩))) :
  CallsD Tryz.prog f #[.pointer (some ⟨a0,0,none⟩),.pointer (some ⟨a1,0,none⟩)] u w fun e c w'=>c=u/\(e=.returned (.tuple #[])/\w'=w.setCell ⟨p,5,none⟩ (.bool h)):=by
 subst b;have k5:=a.skip;have d:=a.free 5;refine callsD_of_wp Tryz.func146 rfl ?_;simp only[Tryz.ntmps146,List.size_toArray,List.length_cons,List.length_nil,Nat.reduceAdd,Nat.reduceSub,Array.replicate_succ,
   Array.replicate_zero,List.push_toArray,List.append_toArray,List.nil_append,List.cons_append]
 go_wp2;go_end0
 exact⟨rfl,rfl⟩
theorem RAt.bx {w:World}{p a:Nat}{st:RS}{v:Value}(h:RAt w p st)(hb:Bx w p a v)(s:Value):RAt (w.setCell ⟨a,0,none⟩ s) p st:=by
 obtain⟨b,l,j,m,q,k⟩:=h;have c:jn w p=l.ownBlock:=by unfold jn;rw[j];rfl
 obtain⟨-,i,f,-⟩:=hb;refine⟨b,l,by rw[Below.heap_setCell _ _ _ _ i.symm];exact j,m,q,k.1,?_⟩
 rcases k.2 with n|⟨g,cap,d,rfl,hB,o,r⟩
 ·exact .inl n
 ·refine .inr ⟨g,cap,d,rfl,hB,?_,r⟩
  rw[Below.heap_setCell _ _ _ _ (fun e=>f (by rw[c,show g=a from e];rfl))];exact o
theorem ydx {w:World}{p a:Nat}(h:a≠p)(v:Value):jn (w.setCell ⟨a,0,none⟩ v) p=jn w p:=by
 unfold jn;rw[Below.heap_setCell _ _ _ _ h.symm]
theorem Upd.bx {w0 w:World}{p a:Nat}{v:Value}(h:Upd p w0 w)(hb:Bx w p a v)(i:w0.heap.size<=a)(g:Value):Upd p w0 (w.setCell ⟨a,0,none⟩ g):=
 ⟨h.os,h.tape,h.output,by simp[World.setCell];exact h.size,fun k b c d=>by rw[Below.heap_setCell _ _ _ _ (fun e=>by have:k=a:=e;omega)];exact h.block k b c d,fun k f=>h.buf k (by rwa[ydx hb.2.1] at f)⟩
theorem Bx.put {w:World}{p a:Nat}{v:Value}(h:Bx w p a v)(b:Value):Bx (w.setCell ⟨a,0,none⟩ b) p a b:=
 ⟨World.cell?_setCell_same _ _ _ h.1,h.2.1,by rw[ydx h.2.1];exact h.2.2.1,by simpa [World.setCell] using h.2.2.2⟩
theorem yyg {w:World}{p:Nat}{st:RS}(b:RAt w p st)(v:Value)(t:TypeId) :
  RAt ((w.alloc (Obj.cells #[.pointer (some ⟨p,0,none⟩)] 99)).alloc (Obj.cells #[v] t)) p st/\
  Upd p w ((w.alloc (Obj.cells #[.pointer (some ⟨p,0,none⟩)] 99)).alloc (Obj.cells #[v] t))/\
  Bx ((w.alloc (Obj.cells #[.pointer (some ⟨p,0,none⟩)] 99)).alloc (Obj.cells #[v] t)) p w.heap.size (.pointer (some ⟨p,0,none⟩))/\
  Bx ((w.alloc (Obj.cells #[.pointer (some ⟨p,0,none⟩)] 99)).alloc (Obj.cells #[v] t)) p (w.heap.size+1) v:=by
 have a:=b.alloc (Obj.cells #[.pointer (some ⟨p,0,none⟩)] 99);have e:=a.alloc (Obj.cells #[v] t);have f:=Upd.alloc b (Obj.cells #[.pointer (some ⟨p,0,none⟩)] 99);have d:=Upd.alloc a (Obj.cells #[v] t);have b1:=(Bx.new b (.pointer (some ⟨p,0,none⟩)) 99).upd d;have c:=Bx.new a v t;rw[show(w.alloc (Obj.cells #[.pointer (some ⟨p,0,none⟩)] 99)).heap.size=w.heap.size+1 by simp] at c;exact⟨e,f.trans d,b1,c⟩
theorem yln {rec:Rec}(H:yy rec){w:World}{p:Nat}{st:RS}{x:Option RS}(C:RAt w p st)(M:st.Wg)(K:Env p w)(l:yee rec st=some x) :
  Calls Tryz.prog 125 #[.pointer (some ⟨p,0,none⟩)] w fun e w'=>yib p w x e w':=by
 have N:∀ (fn:Fn) (first cap:Array Value) (w:World),(Instr.makeFunc fn first cap).run Tryz.prog w=.ok (.func fn first cap) w:=fun _ _ _ _=>rfl;unfold yee at l;obtain⟨i,t,n,q⟩:=yyg C (.bool st.skip) 4;have k5:=(C.alloc (Obj.cells #[.pointer (some ⟨p,0,none⟩)] 99)).skip;have O:=i.skip;have Q:=i.free 5;have s:=i.set_skip true;have k:=t.set 5 (.bool true) (by omega);have b:=n.upd ((Upd.refl p _).set 5 (.bool true) (by omega));have g:=q.upd ((Upd.refl p _).set 5 (.bool true) (by omega));have c0:=b.1;clear i t n q
 go_enter_defers Tryz.func125,Tryz.ntmps125
 go_wp2_with fail
 have A:=K.upd C k;generalize ((w.alloc (Obj.cells #[.pointer (some ⟨p,0,none⟩)] 99)).alloc (Obj.cells #[.bool st.skip] 4)).setCell ⟨p,5,none⟩ (.bool true)=T at *;have u:RS.Wg { st with skip:=true }:=M.same rfl rfl rfl rfl;refine(yhk s u.wf).mono ?_;intro e U y
 rcases hd:ybf st.str with _|⟨d,r⟩
 ·rw[show ybf (RS.str { st with skip:=true })=none from hd] at y
  rw[hd] at l;obtain rfl:=Option.some.inj l;obtain⟨m,o,R,rfl,j,a⟩:=y;refine leaves_cons (f:=146) (args:=#[.pointer (some ⟨w.heap.size+1,0,none⟩),.pointer (some ⟨w.heap.size,0,none⟩)]) (by simp) (by simp[go_sem]) ?_;refine(yem rfl _ j (g.upd a).1 (b.upd a).1).mono ?_;rintro e J v ⟨rfl,rfl,rfl⟩;simp[Leaves,settle,raised];exact⟨m,o,_,rfl,j.set_skip _,(k.trans a).set 5 _ (by omega)⟩
 ·rw[show ybf (RS.str { st with skip:=true })=some (d,r) from hd] at y
  rw[hd] at l;obtain⟨rfl,j,a⟩:=y;have D:RS.Wg (RS.go { st with skip:=true } r):=u.go (ydt hd);have B:=A.upd s a;have c2:=(b.upd a).1;have G:ye (rec (.path false) (RS.go { st with skip:=true } r)) (fun z=>some (some { z.1 with skip:=st.skip }))=some x:=l;clear l
  go_wp2_with fail
  refine ki H j D B G ?_ ?_
  ·intro e P L F
   subst F;obtain⟨m,o,S,rfl,h,c⟩:=L;go_wp2;refine leaves_cons (f:=146) (args:=#[.pointer (some ⟨w.heap.size+1,0,none⟩),.pointer (some ⟨w.heap.size,0,none⟩)]) (by simp) (by simp[go_sem]) ?_;refine(yem rfl _ h ((g.upd a).upd c).1 ((b.upd a).upd c).1).mono ?_;rintro e J v ⟨rfl,rfl,rfl⟩;simp[Leaves,settle,raised];exact⟨m,o,_,rfl,h.set_skip _,((k.trans a).trans c).set 5 _ (by omega)⟩
  ·intro z P h E c I
   obtain rfl:=Option.some.inj I;go_wp2;refine leaves_cons (f:=146) (args:=#[.pointer (some ⟨w.heap.size+1,0,none⟩),.pointer (some ⟨w.heap.size,0,none⟩)]) (by simp) (by simp[go_sem]) ?_;refine(yem rfl _ h ((g.upd a).upd c).1 ((b.upd a).upd c).1).mono ?_;rintro e J v ⟨rfl,rfl,rfl⟩;simp[Leaves,settle,results,Tryz.results125,go_sem];exact⟨⟨rfl,h.set_skip _,((k.trans a).trans c).set 5 _ (by omega)⟩,E.same rfl rfl rfl rfl⟩
end Go.Proofs.YtfckcdbpiepchaaGreatDoor
