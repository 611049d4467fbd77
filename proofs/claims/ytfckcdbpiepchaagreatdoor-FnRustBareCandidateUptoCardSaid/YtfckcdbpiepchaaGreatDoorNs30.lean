import Derived.Test.YtfckcdbpiepchaaGreatDoorNs29
namespace Go.Proofs.YtfckcdbpiepchaaGreatDoor
open Go.RowKit
set_option maxRecDepth 100000
set_option maxHeartbeats 8000000
set_option linter.all false
theorem jh {c:UInt8}{l:List UInt8}(h:yr c=true)(k:l.all yr=true):(c::l).all yr=true:=by rw[List.all_cons,h,k];rfl
theorem ycb {a b:List UInt8}(h:a.all yr=true)(k:b.all yr=true):(a++b).all yr=true:=by rw[List.all_append,h,k];rfl
theorem yry:∀ k,k < 62->yr (ydb k)=true:=by decide
theorem yr0 (n:Nat):(ya5 n).all yr=true:=by
 induction n using Nat.strongRecOn with
 | _ n a=>
  rw[ya5]
  split
  ·exact jh (yry n (by omega)) rfl
  ·exact ycb (a _ (by omega)) (jh (yry _ (by omega)) rfl)
theorem yg3 (n:Nat):(jd n).all yr=true:=by
 unfold jd
 split
 ·rfl
 ·exact ycb (yr0 _) rfl
theorem yj0 (n:Nat):(jf n).all yr=true:=by
 unfold jf
 split
 ·rfl
 ·exact jh rfl (yg3 _)
theorem yuv (n:Nat):(vc n).all yr=true:=by
 unfold vc
 split
 ·rfl
 ·exact jh rfl (yg3 _)
theorem yrx:∀ k,k < 16->yr (yhc k)=true:=by decide
theorem yrw (n:Nat):(qi n).all yr=true:=by
 induction n using Nat.strongRecOn with
 | _ n a=>
  rw[qi]
  split
  ·exact jh (yrx n (by omega)) rfl
  ·exact ycb (a _ (by omega)) (jh (yrx _ (by omega)) rfl)
theorem yrz:∀ k,k < 10->yr (UInt8.ofNat (48+k))=true:=by decide
theorem yxu (n:Nat):(Lib.decDigits n).all yr=true:=by
 induction n using Nat.strongRecOn with
 | _ n a=>
  rw[Lib.decDigits]
  split
  ·exact jh (yrz n (by omega)) rfl
  ·exact ycb (a _ (by omega)) (jh (yrz _ (by omega)) rfl)
theorem yg2 {l:List UInt8}(h:l.all yr=true):(j9 l).all yr=true:=by
 unfold j9;refine ycb (ycb (yxu _) ?_) h
 split<;>rfl
theorem yjz {nm:List UInt8}(h:NmW nm):(vr nm).all yr=true:=by
 unfold vr
 split
 ·rfl
 ·rename_i c
  split
  ·rename_i a;exact yg2 a
  ·rename_i a
   have b:=yiw nm (h.resolve_left c) (by simpa using a);refine jh rfl (yg2 ?_);unfold ydg at b
   split at b
   ·cases b
   ·rename_i d;simpa using d
theorem yxv {nm:List UInt8}(h:ybe nm=true)(a:nm≠[]):(qs nm).all yr=true:=by
 unfold qs
 split
 ·rfl
 ·exact yjz (ygu h a).1
theorem yrv {l:UInt8}(h:97<=l.toNat/\l.toNat<=122):yr l=true:=by
 have:yba (l.toNat:Int)=true:=by unfold yba;simp;omega
 unfold yr;rw[this];simp
theorem yrt (k:Nat):yr (zk k)=true:=by
 unfold zk
 repeat(first|rfl|split)
theorem yru {l:UInt8}{n:Nat}{f:Bool}(h:qv l n f=true):yr l=true:=by
 unfold qv at h
 split at h
 ·rename_i a;rw[a];rfl
 ·split at h
  ·rename_i a;rw[a];rfl
  ·dsimp only at h
   split at h
   ·cases h
   ·rename_i a
    have:∀ c:Fin 256,(yx (UInt8.ofNat c.val)).1≠0->yr (UInt8.ofNat c.val)=true:=by decide +kernel
    have b:=this ⟨l.toNat,l.toNat_lt⟩;simp only[UInt8.ofNat_toNat] at b;exact b a
structure Inv (N:Nat)(w:WS):Prop where
 b:∀ b∈w.bounds,b.at_<=w.out.length/\b.all<=N
 k:∀ r∈w.backs,r.at_<=w.out.length/\r.to_<=w.out.length/\r.bound<=N
theorem Inv.grow {N:Nat}{w v:WS}(h:Inv N w)(d:w.out.length<=v.out.length)(hb:v.bounds=w.bounds)(c:v.backs=w.backs):Inv N v:=
 ⟨fun b a=>by have:=h.b b (hb▸a);omega,fun r a=>by have:=h.k r (c▸a);omega⟩
structure Gr (w v:WS)(o n nb:Nat):Prop where
 o:v.out.length<=w.out.length+o
 x:v.texts.length<=w.texts.length+n
 m:v.marks.length<=w.marks.length+n
 k:v.backs.length<=w.backs.length+n
 u:v.used<=w.used+1000*n
 b:v.bounds.length<=w.bounds.length+nb
 mq:(∀ m∈w.marks,m<=w.out.length)->∀ m∈v.marks,m<=v.out.length
 bo:v.bound<=w.bound+20*nb
 iq:∀ N,Inv N w->w.bound+20*nb<=N->Inv N v
 pl:w.out.all yr=true->v.out.all yr=true
structure GOk (w:WS)(o n:Nat):Prop where
 x:w.texts.length+n<=300
 o:w.out.length+o<=200000000
 mq:∀ m∈w.marks,m<=w.out.length
theorem Gr.refl (w:WS):Gr w w 0 0 0:=⟨Nat.le_refl _,Nat.le_refl _,Nat.le_refl _,Nat.le_refl _,Nat.le_refl _,Nat.le_refl _,fun h=>h,Nat.le_refl _,fun _ h _=>h,id⟩
theorem Gr.trans {u v w:WS}{o1 c b1 o2 n2 a:Nat}(h:Gr u v o1 c b1)(k:Gr v w o2 n2 a):Gr u w (o1+o2) (c+n2) (b1+a):=
 ⟨by have:=h.o;have:=k.o;omega,by have:=h.x;have:=k.x;omega,by have:=h.m;have:=k.m;omega,by have:=h.k;have:=k.k;omega,by have:=h.u;have:=k.u;omega,by have:=h.b;have:=k.b;omega,fun x=>k.mq (h.mq x),by have:=h.bo;have:=k.bo;omega,fun N hi hb=>k.iq N (h.iq N hi (by omega)) (by have:=h.bo;omega),fun x=>k.pl (h.pl x)⟩
theorem Gr.mono {u v:WS}{o n b o' c a:Nat}(h:Gr u v o n b)(e:o<=o')(d:n<=c)(hb:b<=a):Gr u v o' c a:=
 ⟨by have:=h.o;omega,by have:=h.x;omega,by have:=h.m;omega,by have:=h.k;omega,by have:=h.u;omega,by have:=h.b;omega,h.mq,by have:=h.bo;omega,fun N hi f=>h.iq N hi (by omega),h.pl⟩
theorem GOk.step {u v:WS}{o n o1 a b1 o2 n2:Nat}(h:GOk u o n)(k:Gr u v o1 a b1)(c:o1+o2<=o)(b:a+n2<=n):GOk v o2 n2:=
 ⟨by have:=h.x;have:=k.x;omega,by have:=h.o;have:=k.o;omega,k.mq h.mq⟩
theorem qt (w:WS)(t:List UInt8)(b:t.all yr=true:=by rfl):Gr w (w.put t) (t.length+1) 0 0:=by
 cases t with
 | nil=>exact(Gr.refl w).mono (by omega) (by omega) (by omega)
 | cons c r=>
  have d:=yku w (c::r);refine⟨by omega,Nat.le_refl _,Nat.le_refl _,Nat.le_refl _,Nat.le_refl _,Nat.le_refl _,fun h m a=>Nat.le_trans (h m a) (yj w (c::r)).o.length_le,Nat.le_refl _,fun N h _=>h.grow (yj w (c::r)).o.length_le rfl rfl,fun hw=>?_⟩
  show(w.out++((if w.empty&&(c == 95||kt c) then [95] else [])++(c::r))).all yr=true
  refine ycb hw (ycb ?_ b)
  split<;>rfl
theorem ywn (w:WS){nm:List UInt8}(h:NmW nm):Gr w (w.nm nm) 74002 0 0:=by
 unfold WS.nm
 split
 ·have:=qt w [48]
  exact⟨by have:=this.o;simp at this |-;omega,this.x,this.m,this.k,this.u,this.b,this.mq,this.bo,fun N h hb=>(this.iq N h hb).grow (Nat.le_refl _) rfl rfl,this.pl⟩
 ·exact(qt w _ (yjz h)).mono (by have:=ygp h;omega) (Nat.le_refl _) (Nat.le_refl _)
theorem ywo (w:WS){n:Nat}(a:n<=w.bound):Gr w { w with bound:=n } 0 0 0:=⟨Nat.le_refl _,Nat.le_refl _,Nat.le_refl _,Nat.le_refl _,Nat.le_refl _,Nat.le_refl _,fun h=>h,by show n<=_;omega,fun N h _=>h.grow (Nat.le_refl _) rfl rfl,id⟩
theorem yoq (w:WS){n:Nat}(h:n<=20):Gr w (w.bind n) 20 0 1:=by
 have f:(vc n).length<=15:=by
  unfold vc
  split
  ·simp
  ·have:=gh (n:=n-1) (by omega);simp;omega
 have a:=qt w (vc n) (yuv n);unfold WS.bind;dsimp only
 split
 ·exact a.mono (by omega) (Nat.le_refl _) (by omega)
 ·exact⟨by have:=a.o;show(w.put (vc n)).out.length<=_;omega,a.x,a.m,a.k,a.u,by have:=a.b;show((w.put (vc n)).bounds++[_]).length<=_;simp;omega,a.mq,by have:=a.bo;show(w.put (vc n)).bound+n<=_;omega,fun N hi hb=>by
   have d:=a.iq N hi (by omega);have g:=a.bo;refine⟨fun b e=>?_,d.k⟩
   rcases List.mem_append.1 e with c|c
   ·exact d.b b c
   ·obtain rfl:=List.mem_singleton.1 c
    exact⟨Nat.le_refl _,by show(w.put (vc n)).bound+n<=N;omega⟩,a.pl⟩
def GrK (pl:Bool)(how:List Int)(e:Nat):Prop:=∀ md b t,ptc md->Rt md e b t->b<=20->∀ w,GOk w (100000*t.wt-1000) t.wt->Gr w (wGo pl how e t w) (100000*t.wt-1000) t.wt t.wt
theorem yfc {f:WS->ya->WS} : ∀ (l:List ya),(∀ i,i < l.length->∀ w,GOk w (100000*(l.getD i .zero).wt) (l.getD i .zero).wt->Gr w (f w (l.getD i .zero)) (100000*(l.getD i .zero).wt) (l.getD i .zero).wt (l.getD i .zero).wt)->
  ∀ w,GOk w (100000*(l.map ya.wt).sum) (l.map ya.wt).sum->Gr w (l.foldl f w) (100000*(l.map ya.wt).sum) (l.map ya.wt).sum (l.map ya.wt).sum
 | [],_,w,_=>by simpa using Gr.refl w
 | t::l,h,w,a=>by
  simp only[List.map_cons,List.sum_cons] at a |-;have b:Gr w (f w t) (100000*t.wt) t.wt t.wt:=h 0 (by simp) w ⟨by have:=a.x;show w.texts.length+t.wt<=300;omega,by have:=a.o;show w.out.length+100000*t.wt<=200000000;omega,a.mq⟩;have c:=yfc l (fun i hi=>h (i+1) (by simpa using hi)) (f w t) (a.step b (by omega) (by omega));exact(b.trans c).mono (by omega) (by omega) (by omega)
theorem ypy {pl:Bool}{how:List Int}{e:Nat}(H:GrK pl how e){l:List ya}(h:∀ i,i < l.length->∃ md b,ptc md/\Rt md e b (l.getD i .zero)/\b<=20)(w:WS) (c:GOk w (100000*(l.map ya.wt).sum) (l.map ya.wt).sum) :
  Gr w (l.foldl (fun w t=>wGo pl how e t w) w) (100000*(l.map ya.wt).sum) (l.map ya.wt).sum (l.map ya.wt).sum:=by
 refine yfc l (fun i hi w hw=>?_) w c;obtain⟨md,b,d,a,hb⟩:=h i hi;exact(H md b _ d a hb w ⟨hw.x,by have:=hw.o;omega,hw.mq⟩).mono (by omega) (Nat.le_refl _) (Nat.le_refl _)
theorem ysu {pl:Bool}{how:List Int}{e b:Nat}{t:ya}(H:GrK pl how e)(c:Rt .arg e b t)(hb:b<=20)(w:WS)(d:GOk w (100000*t.wt) t.wt):Gr w (vb (wGo pl how e) t w) (100000*t.wt) t.wt t.wt:=by
 have l:=yei t;unfold vb
 split
 ·rename_i a
  cases c with
  | life j=>exact(qt _ _ (jh rfl (yg3 _))).mono (by have:=gh (n:=_) (Nat.lt_of_le_of_lt j (by omega));simp only[ya.num,List.length_cons];omega) (by omega) (by omega)
  | argC h=>have:=(km h).2.2 rfl;omega
  | argT h=>have:=(km h).2.1 rfl;omega
 ·have f:∃ md,ptc md/\Rt md e b t:=by
   rename_i a
   cases c with
   | life j=>exact absurd rfl a
   | argC h=>exact⟨.const,.inr (.inr rfl),h⟩
   | argT h=>exact⟨.type,.inr (.inl rfl),h⟩
  obtain⟨md,i,c⟩:=f
  split
  ·have g:=qt w [75]
   have k:=H md b t i c hb (w.put [75]) (d.step g (by simp;omega) (by omega));exact(g.trans k).mono (by simp;omega) (by omega) (by omega)
  ·exact(H md b t i c hb w ⟨d.x,by have:=d.o;omega,d.mq⟩).mono (by omega) (Nat.le_refl _) (Nat.le_refl _)
theorem yfd {a:List ya}{q:ya} : (a++[q]).getLastD .zero=q:=by rw[List.getLastD_eq_getLast?,List.getLast?_append];rfl
theorem ywm {pl:Bool}{how:List Int}{e:Nat}(H:GrK pl how e){l:List ya}(h:∀ i,i < l.length->∃ md b,ptc md/\Rt md e b (l.getD i .zero)/\b<=20){w v:WS}{o nb:Nat}(a:Gr w v o 0 nb) (c:GOk w (o+100000*(l.map ya.wt).sum) (l.map ya.wt).sum) :
  Gr w (l.foldl (fun w t=>wGo pl how e t w) v) (o+100000*(l.map ya.wt).sum) (l.map ya.wt).sum (nb+(l.map ya.wt).sum):=
 (a.trans (ypy H h v (c.step a (Nat.le_refl _) (by omega)))).mono (Nat.le_refl _) (by omega) (Nat.le_refl _)
theorem yop {pl:Bool}{how:List Int}{e md b:_}{t:ya}(H:GrK pl how e)(f:ptc md)(c:Rt md e b t)(hb:b<=20){w v:WS}{o nb:Nat}(a:Gr w v o 0 nb)(d:GOk w (o+100000*t.wt) t.wt) :
  Gr w (wGo pl how e t v) (o+(100000*t.wt-1000)) t.wt (nb+t.wt):=
 (a.trans (H md b t f c hb v (d.step a (by omega) (by omega)))).mono (Nat.le_refl _) (by omega) (Nat.le_refl _)
theorem yyh {pl:Bool}{how:List Int}{e:Nat}{t:ya}(k:GrK pl how (e+1))(j:GrK pl how e)(hO:yu4 e t)(w:WS)(a:GOk w (100000*t.wt) t.wt):Gr w (wBd (wGo pl how (e+1)) (wGo pl how e) t w) (100000*t.wt) t.wt t.wt:=by
 obtain⟨b,l,nm,n,f,p,m,rfl,hb,⟨d,-⟩,hB⟩:=hO;rw[zd] at a |-;simp only[List.map_cons,List.sum_cons] at a |-;have g:=yop k (.inl rfl) d hb (Gr.refl w) ⟨by have:=a.x;omega,by have:=a.o;omega,a.mq⟩;have q:=yfc (f:=ya6 (wGo pl how e)) m (fun i hi v c=>by
  obtain⟨nm2,n2,f2,l2,t,s,h,d,-⟩:=hB i hi;rw[s] at c |-;rw[zd] at c |-;simp only[List.map_cons,List.map_nil,List.sum_cons,List.sum_nil,Nat.add_zero] at c |-;have u:=yon h;have r:=(qt v (112::vr nm2) (jh rfl (yjz (.inr h)))).mono (o':=75000) (by simp;omega) (Nat.le_refl _) (Nat.le_refl _);exact(yop j (.inr (.inl rfl)) d hb r ⟨by have:=c.x;omega,by have:=c.o;omega,c.mq⟩).mono (by omega) (by omega) (by omega)) (wGo pl how (e+1) p w) (a.step g (by omega) (by omega))
 exact(g.trans q).mono (by omega) (by omega) (by omega)
theorem ww15 (a:Nat->ya->WS->WS)(l:UInt8)(nm:List UInt8)(n:Nat)(f:Bool)(kids:List ya)(w:WS):yc a (.mk 15 l nm n f kids) w={ (a 0 (kids.getLastD .zero) ((kids.dropLast.foldl (fun w t=>a 0 t w) (if nm=[] then(if f=true then((w.put [70]).bind n).put [85] else(w.put [70]).bind n) else(if f=true then((w.put [70]).bind n).put [85] else(w.put [70]).bind n).put (75::qs nm))).put [69])) with bound:=(a 0 (kids.getLastD .zero) ((kids.dropLast.foldl (fun w t=>a 0 t w) (if nm=[] then(if f=true then((w.put [70]).bind n).put [85] else(w.put [70]).bind n) else(if f=true then((w.put [70]).bind n).put [85] else(w.put [70]).bind n).put (75::qs nm))).put [69])).bound-n }:=rfl
theorem yst {pl:Bool}{how:List Int}{d:Nat}(H:∀ e,e<=d->GrK pl how e){md:Sm}{b:Nat}{t:ya}(V:ptc md)(U:Rt md (d+1) b t)(hb:b<=20)(S:t.wt<=300)(w:WS)(r:GOk w (100000*t.wt-2000) (t.wt-1)) :
  Gr w (yc (fun j t w=>wGo pl how (d-j) t w) t w) (100000*t.wt-2000) (t.wt-1) t.wt:=by
 have I:=H d (Nat.le_refl d);generalize y:d+1=D at U;have B:∀ {k l nm n f kids v},(ya.mk k l nm n f kids).wt=1+(kids.map ya.wt).sum->GOk w (100000*(ya.mk k l nm n f kids).wt-2000) ((ya.mk k l nm n f kids).wt-1)->(∀ i,i < kids.length->∃ md b,ptc md/\Rt md d b (kids.getD i .zero)/\b<=20)->Gr w v 200 0 0->
   Gr w (kids.foldl (fun w t=>wGo pl how d t w) v) (100000*(ya.mk k l nm n f kids).wt-20000) ((ya.mk k l nm n f kids).wt-1) (ya.mk k l nm n f kids).wt:=by
  intro k l nm n f kids v hw r hO g;rw[hw] at r |-;exact(ywm I hO g ⟨by have:=r.x;omega,by have:=r.o;omega,r.mq⟩).mono (by omega) (by omega) (by omega)
 have path:∀ D t,d+1=D->Rt .path D b t->GOk w (100000*t.wt-2000) (t.wt-1)->Gr w (yc (fun j t w=>wGo pl how (d-j) t w) t w) (100000*t.wt-2000) (t.wt-1) t.wt:=by
  intro D t y U r
  cases U with
  | @crate u E l nm n f g s=>
   have L:=ya2 (n:=n) (by omega);rw[zd];exact((qt w (67::jf n) (jh rfl (yj0 n))).trans (ywn _ (.inr g))).mono (by simp;omega) (by simp) (by simp)
  | @impl u E l nm n f p t K g s=>
   obtain rfl:d=u:=by injection y
   have L:=ya2 (n:=n) (by omega);refine(B (zd _ _ _ _ _ _) r (fun i hi=>?_) ((qt w (77::jf n) (jh rfl (yj0 n))).mono (by simp;omega) (Nat.le_refl _) (Nat.le_refl _))).mono (by omega) (by omega) (by omega)
   rcases i with _|_|i
   ·exact⟨.path,0,.inl rfl,g,by omega⟩
   ·exact⟨.type,b,.inr (.inl rfl),s,hb⟩
   ·simp at hi;omega
  | @timpl u E l nm n f p t q K g s C=>
   obtain rfl:d=u:=by injection y
   have L:=ya2 (n:=n) (by omega);refine(B (zd _ _ _ _ _ _) r (fun i hi=>?_) ((qt w (88::jf n) (jh rfl (yj0 n))).mono (by simp;omega) (Nat.le_refl _) (Nat.le_refl _))).mono (by omega) (by omega) (by omega)
   rcases i with _|_|_|i
   ·exact⟨.path,0,.inl rfl,g,by omega⟩
   ·exact⟨.type,b,.inr (.inl rfl),s,hb⟩
   ·exact⟨.path,b,.inl rfl,C,hb⟩
   ·simp at hi;omega
  | @tdef u E l nm n f t q K g s=>
   obtain rfl:d=u:=by injection y
   refine(B (zd _ _ _ _ _ _) r (fun i hi=>?_) ((qt w [89]).mono (by simp) (Nat.le_refl _) (Nat.le_refl _))).mono (by omega) (by omega) (by omega)
   rcases i with _|_|i
   ·exact⟨.type,b,.inr (.inl rfl),g,hb⟩
   ·exact⟨.path,b,.inl rfl,s,hb⟩
   ·simp at hi;omega
  | @nested u E l nm n f p K Q g=>
   obtain rfl:d=u:=by injection y
   have L:=ya2 (n:=n) (by omega);have X:yr l=true:=by
    rcases Q with⟨g,s,_⟩|⟨h|h,_⟩
    ·exact yrv ⟨g,s⟩
    ·rw[h];rfl
    ·rw[h];rfl
   have hN:NmW nm:=by
    rcases Q with⟨_,_,h⟩|⟨_,h|h⟩
    ·exact .inr h
    ·exact .inl h
    ·exact .inr h
   rw[zd] at r |-;simp only[List.map_cons,List.map_nil,List.sum_cons,List.sum_nil,Nat.add_zero] at r |-;have s:=yop I (.inl rfl) g hb (qt w [78,l] (jh rfl (jh X rfl))) ⟨by have:=r.x;omega,by have:=r.o;simp;omega,r.mq⟩;exact((s.trans (qt _ (jf n) (yj0 n))).trans (ywn _ hN)).mono (by simp;omega) (by omega) (by omega)
  | @gen u E l nm n f p a K W g s=>
   obtain rfl:d=u:=by injection y
   rw[zd] at r |-;simp only[List.map_cons,List.sum_cons] at r |-;have C:=yop I (.inl rfl) g hb (qt w [73]) ⟨by have:=r.x;omega,by have:=r.o;simp;omega,r.mq⟩;have G:=yfc (f:=fun w t=>vb (wGo pl how d) t w) a (fun i hi v R=>ysu I (s i hi) hb v R) _ (r.step C (by simp;omega) (by omega));exact((C.trans G).trans (qt _ [69])).mono (by simp;omega) (by omega) (by omega)
 cases U with
 | tpath h=>exact path _ _ y h r
 | crate g s=>exact path _ _ y (.crate g s) r
 | impl g s C=>exact path _ _ y (.impl g s C) r
 | timpl g s C G=>exact path _ _ y (.timpl g s C G) r
 | tdef g s C=>exact path _ _ y (.tdef g s C) r
 | nested g s C=>exact path _ _ y (.nested g s C) r
 | gen g s C G=>exact path _ _ y (.gen g s C G) r
 | @basic u E l nm n f x h=>
  rw[zd];exact(qt w [l] (jh (yrv (yc6 h)) rfl)).mono (by simp) (by simp) (by simp)
 | @array u E l nm n f t c g s=>
  obtain rfl:d=u:=by injection y
  have A:yc (fun j t w=>wGo pl how (d-j) t w) (.mk 8 l nm n f [t,c]) w=[t,c].foldl (fun w t=>wGo pl how d t w) (w.put [65]):=by simp[yc,ya.kind,ya.kids,ya.num,zk]
  rw[A];refine(B (zd _ _ _ _ _ _) r (fun i hi=>?_) ((qt w [65]).mono (by simp) (Nat.le_refl _) (Nat.le_refl _))).mono (by omega) (by omega) (by omega)
  rcases i with _|_|i
  ·exact⟨.type,b,.inr (.inl rfl),g,hb⟩
  ·exact⟨.const,b,.inr (.inr rfl),s,hb⟩
  ·simp at hi;omega
 | @slice u E l nm n f t g=>
  obtain rfl:d=u:=by injection y
  have A:yc (fun j t w=>wGo pl how (d-j) t w) (.mk 9 l nm n f [t]) w=[t].foldl (fun w t=>wGo pl how d t w) (w.put [83]):=by simp[yc,ya.kind,ya.kids,ya.num,zk]
  rw[A];refine(B (zd _ _ _ _ _ _) r (fun i hi=>?_) ((qt w [83]).mono (by simp) (Nat.le_refl _) (Nat.le_refl _))).mono (by omega) (by omega) (by omega)
  rcases i with _|i
  ·exact⟨.type,b,.inr (.inl rfl),g,hb⟩
  ·simp at hi
 | @tuple u E l nm n f a g=>
  obtain rfl:d=u:=by injection y
  have A:yc (fun j t w=>wGo pl how (d-j) t w) (.mk 10 l nm n f a) w=(a.foldl (fun w t=>wGo pl how d t w) (w.put [84])).put [69]:=by simp[yc,ya.kind,ya.kids,ya.num,zk]
  rw[A];have s:=B (zd _ _ _ _ _ _) r (fun i hi=>⟨.type,b,.inr (.inl rfl),g i hi,hb⟩) ((qt w [84]).mono (by simp) (Nat.le_refl _) (Nat.le_refl _));have:=yei (.mk 10 l nm n f a);exact(s.trans (qt _ [69])).mono (by simp;omega) (by omega) (by omega)
 | @ref u E k l nm n f t F K g=>
  obtain rfl:d=u:=by injection y
  have L:=gh (n:=n) (by omega);have hO:∀ i,i < [t].length->∃ md b,ptc md/\Rt md d b ([t].getD i .zero)/\b<=20:=fun i hi=>by
   rcases i with _|i
   ·exact⟨.type,b,.inr (.inl rfl),g,hb⟩
   ·simp at hi
  by_cases J:0 < n
  ·have A:yc (fun j t w=>wGo pl how (d-j) t w) (.mk k l nm n f [t]) w=[t].foldl (fun w t=>wGo pl how d t w) ((w.put [zk k]).put (76::jd n)):=by rcases F with rfl|rfl<;>simp[yc,ya.kind,ya.kids,ya.num,zk,J]
   rw[A];exact(B (zd _ _ _ _ _ _) r hO (((qt w [zk k] (jh (yrt k) rfl)).trans (qt _ (76::jd n) (jh rfl (yg3 n)))).mono (by simp;omega) (Nat.le_refl _) (Nat.le_refl _))).mono (by omega) (by omega) (by omega)
  ·have A:yc (fun j t w=>wGo pl how (d-j) t w) (.mk k l nm n f [t]) w=[t].foldl (fun w t=>wGo pl how d t w) (w.put [zk k]):=by rcases F with rfl|rfl<;>simp[yc,ya.kind,ya.kids,ya.num,zk,J]
   rw[A];exact(B (zd _ _ _ _ _ _) r hO ((qt w [zk k] (jh (yrt k) rfl)).mono (by simp) (Nat.le_refl _) (Nat.le_refl _))).mono (by omega) (by omega) (by omega)
 | @ptr u E k l nm n f t F g=>
  obtain rfl:d=u:=by injection y
  have hO:∀ i,i < [t].length->∃ md b,ptc md/\Rt md d b ([t].getD i .zero)/\b<=20:=fun i hi=>by
   rcases i with _|i
   ·exact⟨.type,b,.inr (.inl rfl),g,hb⟩
   ·simp at hi
  have A:yc (fun j t w=>wGo pl how (d-j) t w) (.mk k l nm n f [t]) w=[t].foldl (fun w t=>wGo pl how d t w) (w.put [zk k]):=by rcases F with rfl|rfl<;>simp[yc,ya.kind,ya.kids,ya.num,zk]
  rw[A];exact(B (zd _ _ _ _ _ _) r hO ((qt w [zk k] (jh (yrt k) rfl)).mono (by simp) (Nat.le_refl _) (Nat.le_refl _))).mono (by omega) (by omega) (by omega)
 | @fn u E l nm n f a t N O hu g s=>
  obtain rfl:d=u:=by injection y
  have A:∃ v,Gr w v 76000 0 1/\∃ z,z<=(wGo pl how d t ((a.foldl (fun w t=>wGo pl how d t w) v).put [69])).bound/\yc (fun j t w=>wGo pl how (d-j) t w) (.mk 15 l nm n f (a++[t])) w={ wGo pl how d t ((a.foldl (fun w t=>wGo pl how d t w) v).put [69]) with bound:=z }:=by
   have M:=(qt w [70]).trans (yoq (w.put [70]) (n:=n) (by omega));have T:Gr w (if f=true then((w.put [70]).bind n).put [85] else(w.put [70]).bind n) 30 0 1:=by
    split
    ·exact(M.trans (qt _ [85])).mono (by simp) (by simp) (by simp)
    ·exact M.mono (by simp) (by simp) (by simp)
   by_cases J:nm=[]
   ·refine⟨_,T.mono (by omega) (Nat.le_refl _) (Nat.le_refl _),(wGo pl how d t ((a.foldl (fun w t=>wGo pl how d t w) (if f=true then((w.put [70]).bind n).put [85] else(w.put [70]).bind n)).put [69])).bound-n,Nat.sub_le _ _,?_⟩
    rw[ww15,yfd,List.dropLast_concat,if_pos J];rfl
   ·have L:=yf0 O J
    refine⟨_,(T.trans (qt _ (75::qs nm) (jh rfl (yxv O J)))).mono (by simp;omega) (by simp) (by simp),(wGo pl how d t ((a.foldl (fun w t=>wGo pl how d t w) ((if f=true then((w.put [70]).bind n).put [85] else(w.put [70]).bind n).put (75::qs nm))).put [69])).bound-n,Nat.sub_le _ _,?_⟩;rw[ww15,yfd,List.dropLast_concat,if_neg J];rfl
  obtain⟨v,R,z,Z,A⟩:=A;rw[A,zd] at *;rw[List.map_append,List.sum_append] at r |-;simp only[List.map_cons,List.map_nil,List.sum_cons,List.sum_nil,Nat.add_zero] at r |-;have C:=ywm I (l:=a) (fun i hi=>⟨.type,b+n,.inr (.inl rfl),g i hi,N⟩) R ⟨by have:=r.x;omega,by have:=r.o;omega,r.mq⟩;have G:=C.trans (qt _ [69]);have h5:=I .type (b+n) t (.inr (.inl rfl)) s N ((a.foldl (fun w t=>wGo pl how d t w) v).put [69]) (r.step G (by simp;omega) (by omega));exact((G.trans h5).trans (ywo _ Z)).mono (by simp;omega) (by omega) (by omega)
 | @dyn u E l nm n m f a l2 nm2 f2 P W g Y=>
  obtain rfl:d=u:=by injection y
  obtain⟨e,rfl,-⟩:=ygo P (yey (List.length_pos_iff.2 W) S) (g 0 (List.length_pos_iff.2 W));have hO:∀ i,i < a.length->yu4 e (a.getD i .zero):=fun i hi=>by
   obtain⟨e',ad,hq⟩:=ygo P (yey hi S) (g i hi);obtain rfl:e=e':=by omega
   exact hq
  have A:∃ z,z<=(a.foldl (fun w t=>wBd (wGo pl how (e+1)) (wGo pl how e) t w) ((w.put [68]).bind n)).bound/\yc (fun j t w=>wGo pl how (e+2-j) t w) (.mk 16 l nm n f (a++[.mk 19 l2 nm2 m f2 []])) w=vb (wGo pl how (e+2)) (.mk 19 l2 nm2 m f2 []) (({ a.foldl (fun w t=>wBd (wGo pl how (e+1)) (wGo pl how e) t w) ((w.put [68]).bind n) with bound:=z } : WS).put [69]):=by
   refine⟨(a.foldl (fun w t=>wBd (wGo pl how (e+1)) (wGo pl how e) t w) ((w.put [68]).bind n)).bound-n,Nat.sub_le _ _,?_⟩;simp[yc,ya.kind,ya.kids,ya.num,List.getLastD_eq_getLast?]
  obtain⟨z,Z,A⟩:=A;rw[A,zd] at *;rw[List.map_append,List.sum_append] at r |-;simp only[List.map_cons,List.map_nil,List.sum_cons,List.sum_nil,Nat.add_zero,zd] at r |-;have M:=(qt w [68]).trans (yoq (w.put [68]) (n:=n) (by omega));have T:=yfc (f:=fun w t=>wBd (wGo pl how (e+1)) (wGo pl how e) t w) a (fun i hi v R=>yyh (H (e+1) (by omega)) (H e (by omega)) (hO i hi) v R) _ (r.step M (by simp;omega) (by omega));have g3:=((M.trans T).trans (ywo _ Z)).trans (qt _ [69]);have g4:=ysu I (.life (d:=e+2) (l:=l2) (nm:=nm2) (f:=f2) Y) hb _ (r.step (o2:=100000*(ya.mk 19 l2 nm2 m f2 []).wt) (n2:=(ya.mk 19 l2 nm2 m f2 []).wt) g3 (by rw[zd];simp;omega) (by rw[zd];simp));rw[zd] at g4;exact(g3.trans g4).mono (by simp;omega) (by simp) (by simp;omega)
 | hole=>rw[zd];exact(qt w [112]).mono (by simp) (by simp) (by simp)
 | @num u E l nm n f g K=>
  have L:=yc0 15 n (by simpa using K);rw[zd]
  cases f with
  | false=>exact((qt w [l] (jh (yru g) rfl)).trans (qt _ (qi n++[95]) (ycb (yrw n) rfl))).mono (by simp;omega) (by simp) (by simp)
  | true=>exact(((qt w [l] (jh (yru g) rfl)).trans (qt _ [110])).trans (qt _ (qi n++[95]) (ycb (yrw n) rfl))).mono (by simp;omega) (by simp) (by simp)
 | life=>rcases V with h|h|h<;>cases h
 | argC=>rcases V with h|h|h<;>cases h
 | argT=>rcases V with h|h|h<;>cases h
 | bound=>rcases V with h|h|h<;>cases h
theorem yhi (how:List Int)(u:List UInt8):∀ (l:List (List UInt8×Nat)) (n:Nat),(zr how u l n).2<=n+l.length
 | [],n=>Nat.le_refl _
 | (b,m)::r,n=>by
  have a:=yhi how u r n;have c:=yhi how u r (n+1);unfold zr;simp only[List.length_cons]
  split
  ·split
   ·omega
   ·split
    ·show n+1<=_;omega
    ·omega
  ·omega
theorem yi9 (how:List Int)(u:List UInt8):∀ (l:List (List UInt8×Nat)) (n m:Nat),(zr how u l n).1=some m->∃ b,(b,m)∈l
 | [],n,m,h=>by cases h
 | (b,k)::r,n,m,h=>by
  have c:∀ n,(zr how u r n).1=some m->∃ a,(a,m)∈(b,k)::r:=fun n h=>by
   obtain⟨a,hb⟩:=yi9 how u r n m h;exact⟨a,List.mem_cons_of_mem _ hb⟩
  unfold zr at h
  split at h
  ·split at h
   ·exact c _ h
   ·split at h
    ·cases h;exact⟨b,List.mem_cons_self⟩
    ·exact c _ h
  ·exact c _ h
theorem grK (pl:Bool)(how:List Int):∀ e,GrK pl how e:=by
 intro e
 induction e using Nat.strongRecOn with
 | _ e F=>
  intro md b t i s hb w a;have L:=yei t
  cases e with
  | zero=>
   exfalso
   generalize I:0=D at s
   cases s with
   | life=>rcases i with h|h|h<;>cases h
   | argC=>rcases i with h|h|h<;>cases h
   | argT=>rcases i with h|h|h<;>cases h
   | _=>omega
  | succ d=>
   have A:t.wt<=300:=by have:=a.x;omega
   have hw:∀ w,GOk w (100000*t.wt-2000) (t.wt-1)->Gr w (yc (fun j t w=>wGo pl how (d-j) t w) t w) (100000*t.wt-2000) (t.wt-1) t.wt:=fun w=>yst (fun e J=>F e (by omega)) i s hb A w;have c:∀ u,GOk { w with used:=u } (100000*t.wt-2000) (t.wt-1):=fun u=>⟨by have:=a.x;show w.texts.length+_<=300;omega,by have H:=a.o;show w.out.length+(100000*t.wt-2000)<=200000000;omega,a.mq⟩;rw[wGo]
   split
   ·exact(hw w (c w.used)).mono (by omega) (by omega) (Nat.le_refl _)
   ·dsimp only
    have E:=yhi how (wPl (d+1) t .zero).out (w.texts.zip w.marks) w.used;have M:(w.texts.zip w.marks).length<=300:=by rw[List.length_zip];have:=a.x;omega
    cases C:(zr how (wPl (d+1) t .zero).out (w.texts.zip w.marks) w.used).1 with
    | some m=>
     dsimp only;obtain⟨G,y⟩:=yi9 _ _ _ _ _ C;have z:=a.mq m (List.of_mem_zip y).2;have:=a.o;have K:=gh (n:=m) (by omega);have g:=qt ({ w with used:=(zr how (wPl (d+1) t .zero).out (w.texts.zip w.marks) w.used).2,backs:=w.backs++[⟨w.out.length,m,w.bound⟩] } : WS) (66::jd m) (jh rfl (yg3 m));refine⟨Nat.le_trans g.o (by simp;omega),Nat.le_trans g.x (by simp),Nat.le_trans g.m (by simp),Nat.le_trans g.k (by simp;omega),Nat.le_trans g.u (by simp;omega),Nat.le_trans g.b (by simp),g.mq,Nat.le_trans g.bo (by simp),fun N hi hb=>g.iq N ⟨hi.b,fun r hr=>?_⟩ (by show w.bound+20*0<=N;omega),g.pl⟩
     rcases List.mem_append.1 hr with q|q
     ·exact hi.k r q
     ·obtain rfl:=List.mem_singleton.1 q
      exact⟨Nat.le_refl _,z,by show w.bound<=N;omega⟩
    | none=>
     dsimp only;have g:=hw { w with used:=(zr how (wPl (d+1) t .zero).out (w.texts.zip w.marks) w.used).2 } (c _);have l:=yi4 (fun j t w=>qx pl how (d-j) t w) t { w with used:=(zr how (wPl (d+1) t .zero).out (w.texts.zip w.marks) w.used).2 };generalize yc (fun j t w=>wGo pl how (d-j) t w) t { w with used:=(zr how (wPl (d+1) t .zero).out (w.texts.zip w.marks) w.used).2 } = v at g l;generalize (zr how (wPl (d+1) t .zero).out (w.texts.zip w.marks) w.used).2=u at g l E;refine⟨?_,?_,?_,?_,?_,?_,?_,g.bo,fun N hi hb=>(g.iq N ⟨hi.b,hi.k⟩ hb).grow (Nat.le_refl _) rfl rfl,g.pl⟩
     ·have B:=g.o
      dsimp only at B
      show v.out.length<=w.out.length+(100000*t.wt-1000);omega
     ·have:v.texts.length<=w.texts.length+(t.wt-1):=g.x
      show(v.texts++[_]).length<=_;simp;omega
     ·have:v.marks.length<=w.marks.length+(t.wt-1):=g.m
      show(v.marks++[_]).length<=_;simp;omega
     ·have:v.backs.length<=w.backs.length+(t.wt-1):=g.k
      show v.backs.length<=_;omega
     ·have:v.used<=u+1000*(t.wt-1):=g.u
      show v.used<=_;omega
     ·exact g.b
     ·intro h m f
      show m<=v.out.length
      rcases List.mem_append.1 f with p|p
      ·exact g.mq h m p
      ·have:m=w.out.length:=by simpa using p
       rw[this];exact l.e.o.length_le
theorem ykf {pl:Bool}{how:List Int}{d:Nat}{t:ya}(h:okP d t):j4 (wGo pl how d t .zero):=by
 obtain⟨md,b,a,c,hb,e⟩:=h;have g:=grK pl how d md b t a c hb .zero ⟨by show 0+_<=300;omega,by show 0+_<=_;omega,fun m a=>by cases a⟩;have f:_<=0+_:=g.o;have i:_<=0+_:=g.x;have j:_<=0+_:=g.m;have l:_<=0+_:=g.k;have n:_<=0+_:=g.u;have p:_<=0+_:=g.b;exact⟨by omega,by omega,by omega,by omega,by omega,by omega,fun m a=>by have:=g.mq (fun m a=>by cases a) m a;omega,by have:=(qx pl how d t .zero).tm;show _=_;simpa [WS.zero] using this⟩
theorem yrs {pl:Bool}{how:List Int}{d:Nat}{t:ya}(h:okP d t):(wGo pl how d t .zero).out.all yr=true:=by
 obtain⟨md,b,a,c,hb,e⟩:=h;have g:=grK pl how d md b t a c hb .zero ⟨by show 0+_<=300;omega,by show 0+_<=_;omega,fun m a=>by cases a⟩;exact g.pl rfl
theorem yyd {pl:Bool}{how:List Int}{d:Nat}{t:ya}(h:okP d t):Inv 6000 (wGo pl how d t .zero)/\(wGo pl how d t .zero).backs.length<=300/\(wGo pl how d t .zero).bounds.length<=300:=by
 obtain⟨md,b,a,c,hb,e⟩:=h;have g:=grK pl how d md b t a c hb .zero ⟨by show 0+_<=300;omega,by show 0+_<=_;omega,fun m a=>by cases a⟩;have f:_<=0+_:=g.k;have i:_<=0+_:=g.b;exact⟨g.iq 6000 ⟨fun b a=>(by cases a),fun b a=>(by cases a)⟩ (by show 0+20*t.wt<=6000;omega),by omega,by omega⟩
theorem ys7 {d:Nat}{t:ya}(h:okP d t):j4 (wPl d t .zero):=by
 rw[<-ygv []];exact ykf h
theorem yoh {w:World}{B:Nat}{v:Value}{l:List UInt8}(h:w.ownsRow B 5 1 v l.length (je l)):(convert 22 9 v).run Tryz.prog w=.ok (.string ⟨l.toArray⟩) w:=by
 rcases h.2 with⟨rfl,e⟩|⟨g,cap,a,rfl,hB,f,hr⟩
 ·have b:l=[]:=by
   cases l with
   | nil=>rfl
   | cons c r=>simp at e
  subst b;rw[run_convert_bytes_string w 22 9 5 none 0 0 Tryz.underlying22 Tryz.underlying5 Tryz.underlying9];simp[Conv.bytesToString]
  rfl
 ·refine run_convert_bytes_back w 22 9 5 ⟨g,0,none⟩ cap l Tryz.underlying22 Tryz.underlying5 Tryz.underlying9 (fun j d=>?_)
  have:=h.cells (g:=g) rfl j (.int .u8 (l[j].toNat:Int)) (by unfold je;rw[List.getElem?_map,lge d];rfl);exact this
theorem yoj {t:ya} : ¬ okP 0 t:=by
 rintro ⟨md,b,a,c,-⟩;generalize d:0=D at c
 cases c with
 | life=>rcases a with h|h|h<;>cases h
 | argC=>rcases a with h|h|h<;>cases h
 | argT=>rcases a with h|h|h<;>cases h
 | _=>omega
theorem yg5 {d:Nat}{t:ya}(h:okP d t):1<=t.kind:=by
 obtain⟨md,b,c,a,-⟩:=h;exact yrd a
theorem yr1 {w0:World}{B p:Nat}{h:Value}{how:List Int}(E:WE w0 B p h true how):∀ e,PcC w0 B p h true how e:=by
 intro e
 induction e using Nat.strongRecOn with
 | _ e C=>
  intro t v w st j b a s r hb
  cases e with
  | zero=>exact absurd j yoj
  | succ d=>
   have g:=yg5 j;obtain⟨k,c,nm,n,f,kids⟩:=t;rw[wGo,if_pos rfl] at r |-;have i:=fun w' (x:Below B w0 w') (u:WAt w' B p h true st)=>yfn E (fun e H=>C e (by omega)) j b x u r hb;obtain⟨ao,cap,rfl,hK,I,G⟩:=yo b g;have y:B<=w.heap.size:=by rw[E.hB];exact a.size
   have c5:=fun o=>(s.alloc o).plain;have q:=lh i;have D:=lh a;have F:=lh s;clear i a s b hK E C j r g
   go_enter Tryz.func40,Tryz.ntmps40
   go_wp2_with fail
   refine(q.out _ (D.out.alloc y _) (F.out.alloc _)).mono ?_;rintro e w' ⟨rfl,A,z⟩;have m:=lh A;have l:=lh ((Fr.alloc B w _).trans z);clear A z;go_wp2;go_end0;exact⟨rfl,m.out,l.out⟩
theorem yj4 {w:World}{B p:Nat}{h:Value}{pl:Bool} (a:w.heap[p]? = some (.cells #[.slice none 0 0,.slice none 0 0,.slice none 0 0,h,.int .i64 0,.bool pl,.bool false,.int .i64 0,.slice none 0 0,.slice none 0 0] 70 (0,0))) (hB:B<=p):WAt w B p h pl .zero:=
 ⟨_,_,_,_,_,a,hB,w.ownsRow_nil _ _ _,w.ownsRow_nil _ _ _,w.ownsRow_nil _ _ _,w.ownsRow_nil _ _ _,w.ownsRow_nil _ _ _⟩
theorem yky {d:Nat}{t:ya}{v:Value}{w:World}(hd:d<=49)(r:okP (d+1) t)(g:yg w t v)(H:yb1 w)(G:yec w) :
  Calls Tryz.prog 57 #[v] w fun e w'=>e=.returned (.string ⟨(wPl (d+1) t .zero).out.toArray⟩)/\Below w.heap.size w w':=by
 obtain⟨p,N⟩:∃ p,p=w.heap.size+1:=⟨_,rfl⟩;have E:WE w w.heap.size p (.slice none 0 0) true []:=⟨rfl,H,G,fun h=>by cases h⟩;have q:=ys7 r;have m:=yg5 r;obtain⟨k,c,nm,n,f,kids⟩:=t;rw[<-ygv [],wGo,if_pos rfl] at q |-;have l:WS.zero.bound+20*(d+1)<=1000:=by show 0+20*(d+1)<=1000;omega
 have b:=fun w' L=>yj4 (w:=w') (B:=w.heap.size) (p:=p) (h:=.slice none 0 0) (pl:=true) L (by omega);generalize WS.zero=z at q l b |-;have I:Hid (∀ e,e<=d->PcC w w.heap.size p (.slice none 0 0) true [] e):=lh (fun e _=>yr1 E e);have i:∀ w',Below w.heap.size w w'->WAt w' w.heap.size p (.slice none 0 0) true z->Calls Tryz.prog 56 #[.pointer (some ⟨p,0,none⟩),v] w' fun e C=>kx w.heap.size p (.slice none 0 0) true w' (yc (fun j t w=>wGo true [] (d-j) t w) (.mk k c nm n f kids) z) e C:=fun w' A y=>yfn (how:=[]) E I.out r g A y q l;obtain⟨S,F⟩:∃ S,S=yc (fun j t w=>wGo true [] (d-j) t w) (.mk k c nm n f kids) z:=⟨_,rfl⟩;rw[<-F] at i |-;obtain⟨ao,cap,rfl,hK,P,M⟩:=yo g m;have x:=lh i;have u:=lh N;have s:=lh b;clear i g hK E r m H G F l b q hd
 go_enter Tryz.func57,Tryz.ntmps57
 go_wp2_with fail
 rw[<-u.out];refine(x.out _ ?hb ?hw).mono ?_
 case hb=>exact((Below.refl _ w).alloc (Nat.le_refl _) _).alloc (by simp) _
 case hw=>exact s.out _ (by rw[u.out];simpa using ym (w.alloc _) _)
 rintro e R ⟨rfl,K,D⟩;obtain⟨so,sx,sm,sb,sk,a⟩:=K;have Q:=yoh a.o;have c0:=a.cell 0 so rfl;obtain⟨a0,O,rfl⟩:=jl a.o;have J:=lh (((Fr.alloc w.heap.size w _).trans (.alloc _ _ _)).trans D);rw[u.out] at c0;clear D a;go_wp2;go_ret;exact⟨rfl,J.out.below (Nat.le_refl _)⟩
theorem qu.used_set {w:World}{B p:Nat}{h:Value}{pl:Bool}{st:WS}{so sx sm sb sk:Value}(a:qu w B p h pl st so sx sm sb sk)(n:Nat) :
  qu (w.setCell ⟨p,4,none⟩ (.int .i64 n)) B p h pl { st with used:=n } so sx sm sb sk/\Fr B w (w.setCell ⟨p,4,none⟩ (.int .i64 n)):=
 ⟨⟨by rw[zb a.blk];rfl,a.pB,zw a.o a.blk (by decide) _ _,zw a.x a.blk (by decide) _ _,zw a.m a.blk (by decide) _ _,zw a.b a.blk (by decide) _ _,zw a.k a.blk (by decide) _ _⟩,Fr.set a.blk a.pB (by decide) 4 _⟩
theorem ykl {w:World}{B p:Nat}{v:Value}{pl:Bool}{st:WS}{how:List Int}{so sx sm sb sk:Value}(j:qu w B p v pl st so sx sm sb sk)(y:jk w v how)(H:st.used<=1000000000000) :
  Calls Tryz.prog 58 #[.pointer (some ⟨p,0,none⟩)] w fun e w'=>e=.returned (.bool (ybg how st.used))/\qu w' B p v pl { st with used:=if how=[] then st.used else st.used+1 } so sx sm sb sk/\Fr B w w':=by
 obtain⟨a,c,rfl,F,x,s,t⟩:=y;have k:=j.at;have c3:=k.how;have c4:=k.used;have E:=k.free 4
 by_cases i:how=[]
 ·subst i
  have hr:ybg [] st.used=false:=by unfold ybg;simp
  rw[hr,if_pos rfl];have q:=lh j;clear hr s t k j
  go_enter Tryz.func58,Tryz.ntmps58
  go_wp2;go_ret
  exact⟨rfl,q.out,Fr.refl _ _⟩
 ·have b:0 < how.length:=List.length_pos_iff.2 i
  obtain⟨g,o,rfl⟩:=s i;obtain⟨m,l⟩:∃ m,m=st.used % how.length:=⟨_,rfl⟩;have u:m < how.length:=by rw[l];exact Nat.mod_lt _ b
  have A:((st.used:Int) % (how.length:Int))=(m:Int):=by rw[l];rfl
  have f:=t g o rfl m u;have hr:ybg how st.used=decide ((how.getD m 0) % 2≠0):=by unfold ybg;rw[decide_eq_true i,Bool.true_and,<-l]
  rw[hr,if_neg i];have G:((how.length:Int) == 0)=false:=by rw[beq_eq_false_iff_ne];omega
  unfold maxLen at x;have q:=lh j;clear hr s t k l i j;generalize how.getD m 0=z at f |-;have I:¬ (how.length:Int)=0:=by omega
  have D:¬ how.length=0:=by omega
  have C:how≠[]:=by intro h;rw[h] at b;simp at b
  go_enter Tryz.func58,Tryz.ntmps58
  go_wp2
  go_quiet (fail)
  have hd:Below w.heap.size w (w.drewN nq):=⟨rfl,rfl,rfl,Nat.le_refl _,fun _ _=>rfl⟩;have d:=(q.out.below hd).used_set (st.used+1);have r:=lh d.1;have n:=lh ((Fr.of_below (B:=B) hd).trans d.2);clear hd d;go_wp2;go_ret;refine⟨?_,r.out,n.out⟩
  show Ending.returned (Value.bool (z.tmod 2 != 0))=_
  rw[tmod2]
theorem jk.at {w0 w:World}{B:Nat}{h:Value}{how:List Int}(H:jk w0 h how)(hB:B=w0.heap.size)(hb:Below B w0 w):jk w h how:=by
 obtain⟨x,rfl⟩:=xb hB hb;obtain⟨a,c,b,d,e,f,i⟩:=H;exact⟨a,c,b,d,e,f,fun g o k j l=>yf (i g o k j l) x⟩
theorem yqn {l:List (List UInt8)}{m:List Nat}(h:l.length=m.length){i:Nat}(hi:i < l.length):(l.zip m).drop i=(l.getD i [],m.getD i 0)::(l.zip m).drop (i+1):=by
 have a:i < (l.zip m).length:=by rw[List.length_zip];omega
 rw[List.drop_eq_getElem_cons a]
 congr 1
 rw[List.getElem_zip,lgd,lgd,lge hi,lge (by omega)]
 rfl
theorem yc9 {w:World}{a b c:Value}{e:TypeId}{j:Nat}{u:Value}(d:[a,b,c][j]? = some u):(w.alloc (.cells #[a,b,c] e)).cell? ((⟨w.heap.size,0,none⟩:Addr).add j)=some u:=by
 have hb:=ym w (.cells #[a,b,c] e)
 rcases j with _|_|_|j
 ·cases d;exact zm (j:=0) hb rfl
 ·cases d;exact zm (j:=1) hb rfl
 ·cases d;exact zm (j:=2) hb rfl
 ·simp at d
end Go.Proofs.YtfckcdbpiepchaaGreatDoor
