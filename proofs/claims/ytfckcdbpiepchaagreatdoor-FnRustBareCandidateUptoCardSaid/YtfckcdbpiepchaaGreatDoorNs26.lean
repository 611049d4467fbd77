import Derived.Test.YtfckcdbpiepchaaGreatDoorNs25
namespace Go.Proofs.YtfckcdbpiepchaaGreatDoor
open Go.RowKit
set_option maxRecDepth 100000
set_option maxHeartbeats 8000000
set_option linter.all false
structure gz (P:List UInt8)(w v:WS):Prop where
 o:v.out=P++w.out
 e:v.empty=w.empty
theorem zu {P:List UInt8}{w v:WS}(h:gz P w v)(t:List UInt8):gz P (w.put t) (v.put t):=by
 cases t with
 | nil=>exact h
 | cons c r=>exact⟨by unfold WS.put;dsimp only;rw[h.o,h.e,List.append_assoc],rfl⟩
theorem yod {P:List UInt8}{w v:WS}(h:gz P w v)(t:List UInt8):gz P (w.nm t) (v.nm t):=by
 unfold WS.nm
 split
 ·exact⟨(zu h [48]).o,rfl⟩
 ·exact zu h _
theorem yit {P:List UInt8}{w v:WS}(h:gz P w v)(n:Nat):gz P (w.bind n) (v.bind n):=by
 unfold WS.bind;have:=zu h (vc n);dsimp only
 split
 ·exact this
 ·exact⟨this.o,this.e⟩
theorem js {P:List UInt8}{a b d e:WS}{c:Prop} [Decidable c] (h:gz P a d) (k:gz P b e):gz P (if c then a else b) (if c then d else e):=by
 split
 ·exact h
 ·exact k
theorem ycf {P:List UInt8}{f g:WS->ya->WS}(h:∀ t w v,gz P w v->gz P (f w t) (g v t)):∀ (l:List ya) (w v:WS),gz P w v->gz P (l.foldl f w) (l.foldl g v)
 | [],_,_,k=>k
 | t::l,w,v,k=>ycf h l _ _ (h t w v k)
theorem yk0 {P:List UInt8}{f g:ya->WS->WS}(h:∀ t w v,gz P w v->gz P (f t w) (g t v))(t:ya){w v:WS}(k:gz P w v):gz P (vb f t w) (vb g t v):=by
 unfold vb;exact js (zu k _) (js (h _ _ _ (zu k _)) (h _ _ _ k))
theorem yur {P:List UInt8}{f g f2 a:ya->WS->WS}(h:∀ t w v,gz P w v->gz P (f t w) (g t v))(b:∀ t w v,gz P w v->gz P (f2 t w) (a t v))(t:ya){w v:WS}(k:gz P w v):gz P (wBd f f2 t w) (wBd g a t v):=
 ycf (f:=ya6 f2) (g:=ya6 a) (fun _ _ _ k=>b _ _ _ (zu k _)) _ _ _ (h _ _ _ k)
theorem ymw {P:List UInt8}{c d:Pc}(h:∀ j t w v,gz P w v->gz P (c j t w) (d j t v))(t:ya){w v:WS}(k:gz P w v):gz P (yc c t w) (yc d t v):=by
 have b:∀ (l:List ya) (w v:WS),gz P w v->gz P (l.foldl (fun w t=>c 0 t w) w) (l.foldl (fun w t=>d 0 t w) v):=ycf fun t w v k=>h 0 t w v k;unfold yc;refine js (yod (zu k _) _) ?_;refine js (b _ _ _ (zu k _)) ?_;refine js (b _ _ _ (zu k _)) ?_;refine js (b _ _ _ (zu k _)) ?_;refine js (yod (zu (h _ _ _ _ (zu k _)) _) _) ?_;refine js (zu (ycf (fun t w v k=>yk0 (h 0) t k) _ _ _ (h _ _ _ _ (zu k _))) _) ?_;refine js (zu k _) ?_;have m:gz P (if 0 < t.num/\(t.kind=11\/t.kind=12) then(w.put [zk t.kind]).put (76::jd t.num) else w.put [zk t.kind]) (if 0 < t.num/\(t.kind=11\/t.kind=12) then(v.put [zk t.kind]).put (76::jd t.num) else v.put [zk t.kind]):=
  js (zu (zu k _) _) (zu k _)
 refine js (js (zu (b _ _ _ m) _) (b _ _ _ m)) ?_;have p:gz P (if t.flag=true then(w.put [t.letter]).put [110] else w.put [t.letter]) (if t.flag=true then(v.put [t.letter]).put [110] else v.put [t.letter]):=js (zu (zu k _) _) (zu k _);refine js (zu p _) ?_;refine js (zu k _) ?_;have i:gz P ((w.put [70]).bind t.num) ((v.put [70]).bind t.num):=yit (zu k _) _;have q:gz P (if t.flag=true then((w.put [70]).bind t.num).put [85] else(w.put [70]).bind t.num) (if t.flag=true then((v.put [70]).bind t.num).put [85] else(v.put [70]).bind t.num):=js (zu i _) i;have r:∀ a v2,gz P a v2->gz P (if t.name=[] then a else a.put (75::qs t.name)) (if t.name=[] then v2 else v2.put (75::qs t.name)):=fun a v2 h=>js h (zu h _);have n:=h 0 (t.kids.getLastD .zero) _ _ (zu (b t.kids.dropLast _ _ (r _ _ q)) [69]);refine js ⟨n.o,n.e⟩ ?_;have s:=ycf (P:=P) (f:=fun w t=>wBd (c 1) (c 2) t w) (g:=fun w t=>wBd (d 1) (d 2) t w) (fun t w v k=>yur (h 1) (h 2) t k) t.kids.dropLast _ _ (yit (zu k [68]) t.num);have u:∀ a v2:WS,gz P a v2->gz P (({ a with bound:=a.bound-t.num } : WS).put [69]) (({ v2 with bound:=v2.bound-t.num } : WS).put [69]):=fun a v2 h=>zu (⟨h.o,h.e⟩:gz P ({ a with bound:=a.bound-t.num } : WS) ({ v2 with bound:=v2.bound-t.num } : WS)) _;exact yk0 (h 0) _ (u _ _ s)
theorem yuq {P:List UInt8} : ∀ d t w v,gz P w v->gz P (wPl d t w) (wPl d t v):=by
 intro d
 induction d using Nat.strongRecOn with
 | _ d a=>
  intro t w v k
  cases d with
  | zero=>rw[wPl,wPl];exact k
  | succ d=>rw[wPl,wPl];exact ymw (fun j t w v k=>a (d-j) (by omega) t w v k) t k
theorem yk9 (O:xm){md:Sm}{d b:Nat}{t:ya}(K:ptc md)(H:Rt md d b t)(v:b<=20)(P:List UInt8)(ar:Nat) :
  ∃ L,∀ J,L<=J.length->kt (J.headD 69)=false->J.headD 69≠95->∀ s,s=P++(wPl d t .zero).out++J->Sp s 0 true s.length md d ar b P.length t (P.length+(wPl d t .zero).out.length):=by
 obtain⟨w0,a⟩:∃ w0:WS,w0={ WS.zero with out:=P,bound:=ar+b }:=⟨_,rfl⟩;have E:gz P .zero w0:=by rw[a];exact⟨by simp[WS.zero],rfl⟩
 have g:=yuq d t .zero w0 E;obtain⟨W,I⟩:∃ W,W=wPl d t w0:=⟨_,rfl⟩;rw[<-I] at g;refine⟨(W.bounds.map Bd.all).sum+1,fun J G z A s D=>?_⟩;have q:W.out <+: s:=⟨J,by rw[D,g.o]⟩;have p:W.out.length=P.length+(wPl d t .zero).out.length:=by rw[g.o,List.length_append]
 have N:=ywh O q (pl:=true) (fun h=>by cases h) [] (fun h=>by cases h) (fun h=>by cases h) H v;obtain⟨e,rfl⟩:=ymx H K;have F:qg s W (yc (fun j t w=>wGo true [] (e-j) t w) t) true md (e+1) b t:=by
  rcases K with rfl|rfl|rfl<;>(obtain⟨M,T,h⟩:=N;obtain rfl:M=e:=(by omega);exact h)
 have f:yc (fun j t w=>wGo true [] (e-j) t w) t w0=W:=by
  rw[I,wPl]
  congr 1
  funext j t w
  exact ygv [] _ t w
 have k:s.getD W.out.length 0=J.headD 69:=by
  have m:J≠[]:=fun h=>by rw[h] at G;simp at G
  obtain⟨c,r,rfl⟩:∃ c r,J=c::r:=by cases J with|nil=>exact absurd rfl m|cons c r=>exact⟨c,r,rfl⟩
  exact ybu (x:=r) (by rw[D,g.o];exact List.prefix_rfl)
 have hr:=F.res ar w0 ⟨by rw[a];rfl,fun i hi=>by rw[a] at hi;exact absurd hi (Nat.not_lt_zero _)⟩ (by rw[a]) (by rw[f];exact .refl _) (by rw[f];intro _;rw[k];exact z);rw[f] at hr;have n:∀ bd∈W.bounds,bd.all<=(W.bounds.map Bd.all).sum:=by
  have:∀ (l:List Bd),∀ bd∈l,bd.all<=(l.map Bd.all).sum:=by
   intro l
   induction l with
   | nil=>intro bd h;cases h
   | cons x l R=>
    intro bd h;rw[List.map_cons,List.sum_cons]
    rcases List.mem_cons.1 h with rfl|h
    ·omega
    ·have:=R bd h;omega
  exact this _
 have Q:s.length=W.out.length+J.length:=by rw[D,p];simp;omega
 have h:=hr.sp 0 s.length ⟨Nat.le_refl _,by omega,fun bd y _ S=>by have:=n bd y;omega,by omega⟩;have B:=(F.beg w0).k0 q (by rw[f];exact .refl _) s.length;have u:w0.out.length=P.length:=by rw[a]
 have C:y8 s s.length W=W.out.length:=by
  unfold y8;rw[if_neg (fun h=>A (by rw[<-k,h.2.2]))]
 rw[B,C,u,p] at h;exact h
theorem ygz {s:List UInt8}{sg:Nat}{hr:Bool}{lim:Nat}{md:Sm}{d ar b k:Nat}{t:ya}{k':Nat}(h:Sp s sg hr lim md d ar b k t k')(e:hr=true)(c:md=.path\/md=.type)(a:97<=(s.getD k 0).toNat):t.kind=7:=by
 cases h with
 | basic=>rfl
 | tpath g=>have:=ydh g rfl rfl;unfold yb4 at this;simp only[Bool.or_eq_true,beq_iff_eq] at this;exfalso;rcases this with((((h|h)|h)|h)|h)|h<;>(rw[h] at a;exact absurd a (by decide))
 | crate h=>rw[h.2] at a;exact absurd a (by decide)
 | impl h=>rw[h.2] at a;exact absurd a (by decide)
 | timpl h=>rw[h.2] at a;exact absurd a (by decide)
 | tdef h=>rw[h.2] at a;exact absurd a (by decide)
 | nested h=>rw[h.2] at a;exact absurd a (by decide)
 | gen h=>rw[h.2] at a;exact absurd a (by decide)
 | array h=>rw[h.2] at a;exact absurd a (by decide)
 | slice h=>rw[h.2] at a;exact absurd a (by decide)
 | tuple h=>rw[h.2] at a;exact absurd a (by decide)
 | ref h=>rcases h with⟨_,h⟩|⟨_,h⟩<;>(rw[h.2] at a;exact absurd a (by decide))
 | ptr h=>rcases h with⟨_,h⟩|⟨_,h⟩<;>(rw[h.2] at a;exact absurd a (by decide))
 | fn h=>rw[h.2] at a;exact absurd a (by decide)
 | dyn h=>rw[h.2] at a;exact absurd a (by decide)
 | _=>first|(cases e;done)|(rcases c with c|c<;>cases c)
theorem yf4 {s:List UInt8}{sg:Nat}{hr:Bool}{lim:Nat}{md:Sm}{d ar b k:Nat}{t:ya}{k':Nat}(h:Sp s sg hr lim md d ar b k t k')(a:hr=true)(e:md=.const):97<=(s.getD k 0).toNat:=by
 cases h with
 | hole h=>rw[h.2];decide
 | num h _ _ _ _ _ c=>rw[h.2];exact(yi0 c).1
 | _=>first|(cases a;done)|(cases e;done)
theorem yla {md:Sm}{d b:Nat}{t:ya}(a:Rt md d b t)(f:ptc md)(c:t.kind=7):(wPl d t .zero).out.length=1:=by
 obtain⟨e,rfl⟩:=ymx a f;rw[wPl];unfold yc;rw[if_neg (by omega),if_neg (by omega),if_neg (by omega),if_neg (by omega),if_neg (by omega),if_neg (by omega),if_pos c]
 rfl
theorem yhr (k:Nat):ptc (ka k):=by
 unfold ka
 split
 ·exact .inl rfl
 ·split
  ·exact .inr (.inl rfl)
  ·exact .inr (.inr rfl)
theorem ygs {k:Nat}(h:ka k≠.const):ka k=.path\/ka k=.type:=by
 rcases yhr k with a|a|a
 ·exact .inl a
 ·exact .inr a
 ·exact absurd a h
theorem dets (q:xm)(pl:Bool):ywe pl:=by
 intro _ md d b t f t0 b0 w v n h e u x;have i:=yre v w;obtain⟨l,o⟩:=yk9 q (yhr t.kind) i n [] 0;obtain⟨m,p⟩:=yk9 q (yhr t0.kind) h e [] 0;obtain⟨s,r⟩:∃ s,s=[]++(wPl d t .zero).out++List.replicate (l+m+1) 69:=⟨_,rfl⟩;have k:=o (List.replicate (l+m+1) 69) (by simp;omega) (by rw[List.replicate_succ];rfl) (by rw[List.replicate_succ];show(69:UInt8)≠95;decide) s r;have a:=p (List.replicate (l+m+1) 69) (by simp;omega) (by rw[List.replicate_succ];rfl) (by rw[List.replicate_succ];show(69:UInt8)≠95;decide) s (by rw[r,u]);have j:ka t0.kind=ka t.kind:=by
  by_cases c1:ka t.kind=.const
  ·by_cases c2:ka t0.kind=.const
   ·rw[c1,c2]
   ·have c:=yf4 k rfl c1
    have g:=ygz a rfl (ygs c2) c;have:=yla h (yhr _) g;rw[u] at this;omega
  ·by_cases c2:ka t0.kind=.const
   ·have c:=yf4 a rfl c2
    have g:=ygz k rfl (ygs c1) c;have:=yla i (yhr _) g;omega
   ·have c:=j7 k rfl (ygs c1)
    have g:=j7 a rfl (ygs c2);rw[show t0.kind=t.kind from g.trans c.symm]
 rw[j] at a;exact⟨j,(yxn k (Nat.le_refl _) a).2⟩
def ycg (W:WS):Prop:=∀ bd∈W.bounds,bd.at_+bd.all < W.out.length/\∀ r∈W.backs,r.to_<=bd.at_->bd.at_<=r.at_->bd.at_+bd.all+vo W.backs < r.at_
theorem yva (j:xm){t:ya}{how:List Int}(o:Rt .path 24 0 t){W:WS}(d:W=wGo false how 24 t .zero)(hr:ycg W){s:List UInt8}(e:W.out <+: s)(k:Fl s W)(p:s.length<=4611686018427387904) :
  Sp s 0 false s.length .path 24 0 0 0 t (y8 s s.length W):=by
 have q:=ywh j e (pl:=false) (fun _=>p) how (dets j false) (fun _ r c bd a f g=>(hr bd a).2 r c f g) o (by omega);have n:=ylg e (pl:=false) (fun _=>p) how (dets j false) (fun _ r c bd a f g=>(hr bd a).2 r c f g) (.inl rfl) o (by omega) q;have b:=n.res 0 .zero ⟨rfl,fun i hi=>absurd hi (Nat.not_lt_zero _)⟩ rfl (by rw[d];exact .refl _) (by rw[<-d];exact k);rw[<-d] at b;have m:=e.length_le;have h:=b.sp 0 s.length ⟨Nat.le_refl _,m,fun bd a _ _=>by have:=(hr bd a).1;omega,by omega⟩;have l:=(n.beg .zero).k0 e (by rw[d];exact .refl _) s.length;rw[l] at h;exact h
end Go.Proofs.YtfckcdbpiepchaaGreatDoor
