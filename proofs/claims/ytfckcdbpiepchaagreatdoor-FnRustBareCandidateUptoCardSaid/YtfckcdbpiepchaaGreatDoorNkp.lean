/- What a tree without generic arguments says, and what one without bindings says when its generic arguments are left out. -/
import Derived.Test.YtfckcdbpiepchaaGreatDoorNs38
import Derived.Test.YtfckcdbpiepchaaGreatDoorXtp
namespace Go.Proofs.YtfckcdbpiepchaaGreatDoor
set_option linter.all false
open Go.RowKit
def ya.args:ya->Bool
 | .mk k _ _ _ _ kids=>(decide (k=6)||decide (k=17/\1 < kids.length))||kids.attach.any fun⟨x,_⟩=>x.args
def ya.bnds:ya->Bool
 | .mk k _ _ _ _ kids=>decide (k=18)||kids.attach.any fun⟨x,_⟩=>x.bnds
theorem bnds_mk (k:Nat)(l:UInt8)(nm:List UInt8)(n:Nat)(f:Bool)(kids:List ya):(ya.mk k l nm n f kids).bnds=(decide (k=18)||kids.any ya.bnds):=by
 rw[ya.bnds]
 congr 1
 rw[Bool.eq_iff_iff,List.any_eq_true,List.any_eq_true];exact⟨fun⟨⟨x,hx⟩,_,h⟩=>⟨x,hx,h⟩,fun⟨x,hx,h⟩=>⟨⟨x,hx⟩,List.mem_attach _ _,h⟩⟩
theorem bnds_no {k:Nat}{l:UInt8}{nm:List UInt8}{n:Nat}{f:Bool}{kids:List ya}(h:(ya.mk k l nm n f kids).bnds=false):k≠18/\∀ x∈kids,x.bnds=false:=by
 rw[bnds_mk,Bool.or_eq_false_iff,decide_eq_false_iff_not] at h;exact⟨h.1,fun x hx=>by have:=List.any_eq_false.1 h.2 x hx;simpa using this⟩
def ya.bare:ya->ya
 | .mk k l nm n f kids=>if k=6 then .mk 6 0 [] 0 false ((kids.attach.map fun⟨x,_⟩=>x.bare).take 1) else .mk k l nm n f (kids.attach.map fun⟨x,_⟩=>x.bare)
theorem bare_mk (k:Nat)(l:UInt8)(nm:List UInt8)(n:Nat)(f:Bool)(kids:List ya):(ya.mk k l nm n f kids).bare=if k=6 then .mk 6 0 [] 0 false ((kids.map ya.bare).take 1) else .mk k l nm n f (kids.map ya.bare):=by
 have h:(kids.attach.map fun⟨x,_⟩=>x.bare)=kids.map ya.bare:=by rw[List.map_attach_eq_pmap];simp[List.pmap_eq_map]
 rw[ya.bare,h]
theorem bare_not {k:Nat}{l:UInt8}{nm:List UInt8}{n:Nat}{f:Bool}{kids:List ya}(h:k≠6):(ya.mk k l nm n f kids).bare=.mk k l nm n f (kids.map ya.bare):=by rw[bare_mk,if_neg h]
theorem bare_gen {l:UInt8}{nm:List UInt8}{n:Nat}{f:Bool}{p:ya}{a:List ya} : (ya.mk 6 l nm n f (p::a)).bare=.mk 6 0 [] 0 false [p.bare]:=by rw[bare_mk,if_pos rfl];rfl
theorem getD_bare {a:List ya}{i:Nat}(h:i < a.length):(a.map ya.bare).getD i .zero=(a.getD i .zero).bare:=by
 rw[lgd,lgd,List.getElem?_map,lge h];rfl
theorem ne2_bare {k:Nat}{l:UInt8}{nm:List UInt8}{n:Nat}{f:Bool}{kids:List ya}(h17:k≠17)(h20:k≠20)(h:∀ x∈kids,x.bare.ne2=true):(ya.mk k l nm n f (kids.map ya.bare)).ne2=true:=
 (yzs _ _ _ _ _ _).2 ⟨fun h=>absurd h h17,fun h=>absurd h h20,fun x hx=>by obtain⟨y,hy,rfl⟩:=List.mem_map.1 hx;exact h y hy⟩
theorem unit_bare (t:ya):ya8 t.bare=ya8 t:=by
 obtain⟨k,l,nm,n,f,kids⟩:=t
 by_cases h:k=6
 ·subst h;rw[bare_mk,if_pos rfl];rfl
 ·rw[bare_not h];unfold ya8 ya.kind ya.kids;cases kids<;>rfl
theorem u_bare (t:ya):isU t.bare=isU t:=by
 obtain⟨k,l,nm,n,f,kids⟩:=t
 by_cases h:k=6
 ·subst h;rw[bare_mk,if_pos rfl];rfl
 ·rw[bare_not h];rfl
theorem wt_bare:∀ (m:Nat)(t:ya),t.wt<=m->t.bare.wt<=t.wt:=by
 intro m
 induction m with
 | zero=>intro t h;have:=yei t;omega
 | succ m ih=>
  intro t hm;obtain⟨k,l,nm,n,f,kids⟩:=t;rw[zd] at hm;have hs:∀ a:List ya,(∀ x∈a,x.bare.wt<=x.wt)->((a.map ya.bare).map ya.wt).sum<=(a.map ya.wt).sum:=by
   intro a
   induction a with
   | nil=>intro _;exact Nat.le_refl _
   | cons x a iha=>
    intro h;have h1:=h x List.mem_cons_self;have h2:=iha fun y hy=>h y (List.mem_cons_of_mem _ hy);simp only[List.map_cons,List.sum_cons];omega
  have hk:∀ x∈kids,x.bare.wt<=x.wt:=fun x hx=>ih x (by have:=xn hx;omega)
  by_cases h:k=6
  ·subst h
   rw[bare_mk,if_pos rfl,zd,zd]
   cases kids with
   | nil=>simp
   | cons p a=>
    have:=hk p List.mem_cons_self;simp only[List.map_cons,List.take_succ_cons,List.take_zero,List.map_nil,List.sum_cons,List.sum_nil];omega
  ·rw[bare_not h,zd,zd]
   have:=hs kids hk;omega
theorem says_bare {md:Md}{b:Nat}{t:ya}{x:List UInt8}(h:qq true md b t x):t.bnds=false->t.ne=true->qq false md b t.bare x/\t.bare.ne2=true:=by
 induction h with
 | crate h=>intro _ _;rw[bare_not (by decide)];exact⟨.crate h,ne2_bare (kids:=[]) (by decide) (by decide) (by simp)⟩
 | @impl v b l nm n f p t x y _ _ ih1 ih2=>
  intro hb hn;have hb:=(bnds_no hb).2;have hn:=((jo _ _ _ _ _ _).1 hn).2.2;obtain⟨a1,a2⟩:=ih1 (hb _ (by simp)) (hn _ (by simp));obtain⟨c1,c2⟩:=ih2 (hb _ (by simp)) (hn _ (by simp));rw[bare_not (by decide)];exact⟨.impl a1 c1,ne2_bare (kids:=[p,t]) (by decide) (by decide) (by simp[a2,c2])⟩
 | @timpl v b l nm n f p t q x y z _ _ _ ih1 ih2 ih3=>
  intro hb hn;have hb:=(bnds_no hb).2;have hn:=((jo _ _ _ _ _ _).1 hn).2.2;obtain⟨a1,a2⟩:=ih1 (hb _ (by simp)) (hn _ (by simp));obtain⟨c1,c2⟩:=ih2 (hb _ (by simp)) (hn _ (by simp));obtain⟨d1,d2⟩:=ih3 (hb _ (by simp)) (hn _ (by simp));rw[bare_not (by decide)];exact⟨.timpl a1 c1 d1,ne2_bare (kids:=[p,t,q]) (by decide) (by decide) (by simp[a2,c2,d2])⟩
 | @tdef v b l nm n f t q x z _ _ ih1 ih2=>
  intro hb hn;have hb:=(bnds_no hb).2;have hn:=((jo _ _ _ _ _ _).1 hn).2.2;obtain⟨a1,a2⟩:=ih1 (hb _ (by simp)) (hn _ (by simp));obtain⟨c1,c2⟩:=ih2 (hb _ (by simp)) (hn _ (by simp));rw[bare_not (by decide)];exact⟨.tdef a1 c1,ne2_bare (kids:=[t,q]) (by decide) (by decide) (by simp[a2,c2])⟩
 | @small v b l nm n f p x h1 h2 _ ih=>
  intro hb hn;obtain⟨a1,a2⟩:=ih ((bnds_no hb).2 _ (by simp)) (((jo _ _ _ _ _ _).1 hn).2.2 _ (by simp));rw[bare_not (by decide)];exact⟨.small h1 h2 a1,ne2_bare (kids:=[p]) (by decide) (by decide) (by simp[a2])⟩
 | @special v b l nm n f p x h1 h2 h3 _ ih=>
  intro hb hn;obtain⟨a1,a2⟩:=ih ((bnds_no hb).2 _ (by simp)) (((jo _ _ _ _ _ _).1 hn).2.2 _ (by simp));rw[bare_not (by decide)];exact⟨.special h1 h2 h3 a1,ne2_bare (kids:=[p]) (by decide) (by decide) (by simp[a2])⟩
 | @gen v b l nm n f p x a xs hl _ _ _ ih=>
  intro hb hn;obtain⟨a1,a2⟩:=ih ((bnds_no hb).2 _ (by simp)) (((jo _ _ _ _ _ _).1 hn).2.2 _ (by simp));rw[bare_gen];exact⟨qq.gen (ng:=false) (a:=[]) (xs:=[]) rfl (fun i hi=>absurd hi (Nat.not_lt_zero _)) a1,(yzs _ _ _ _ _ _).2 ⟨fun h=>absurd h (by decide),fun h=>absurd h (by decide),by simp[a2]⟩⟩
 | path _ ih=>intro hb hn;obtain⟨a1,a2⟩:=ih hb hn;exact⟨.path a1,a2⟩
 | basic h=>intro _ _;rw[bare_not (by decide)];exact⟨.basic h,ne2_bare (kids:=[]) (by decide) (by decide) (by simp)⟩
 | @array b l nm n f t c x y _ _ ih1 ih2=>
  intro hb hn;have hb:=(bnds_no hb).2;have hn:=((jo _ _ _ _ _ _).1 hn).2.2;obtain⟨a1,a2⟩:=ih1 (hb _ (by simp)) (hn _ (by simp));obtain⟨c1,c2⟩:=ih2 (hb _ (by simp)) (hn _ (by simp));rw[bare_not (by decide)];exact⟨.array a1 c1,ne2_bare (kids:=[t,c]) (by decide) (by decide) (by simp[a2,c2])⟩
 | @slice b l nm n f t x _ ih=>
  intro hb hn;obtain⟨a1,a2⟩:=ih ((bnds_no hb).2 _ (by simp)) (((jo _ _ _ _ _ _).1 hn).2.2 _ (by simp));rw[bare_not (by decide)];exact⟨.slice a1,ne2_bare (kids:=[t]) (by decide) (by decide) (by simp[a2])⟩
 | @tuple b l nm n f a xs hl _ ih=>
  intro hb hn;have hb:=(bnds_no hb).2;have hn:=((jo _ _ _ _ _ _).1 hn).2.2;have hk:=fun i (hi:i < a.length)=>ih i hi (hb _ (ybi hi)) (hn _ (ybi hi));rw[bare_not (by decide)];refine⟨?_,ne2_bare (by decide) (by decide) fun y hy=>?_⟩
  ·have h:=qq.tuple (ng:=false) (b:=b) (l:=l) (nm:=nm) (n:=n) (f:=f) (a:=a.map ya.bare) (xs:=xs) (by rw[List.length_map];exact hl) fun i hi=>by
    rw[List.length_map] at hi;rw[getD_bare hi];exact(hk i hi).1
   rw[List.length_map] at h;exact h
  ·obtain⟨i,hi,rfl⟩:=List.getElem_of_mem hy
   have:=(hk i hi).2
   rwa[lgd,lge hi] at this
 | @ref b k l nm n f t x h1 h2 _ ih=>
  intro hb hn;obtain⟨a1,a2⟩:=ih ((bnds_no hb).2 _ (by simp)) (((jo _ _ _ _ _ _).1 hn).2.2 _ (by simp));rw[bare_not (by omega)];exact⟨.ref h1 h2 a1,ne2_bare (kids:=[t]) (by omega) (by omega) (by simp[a2])⟩
 | @ptr b k l nm n f t x h1 _ ih=>
  intro hb hn;obtain⟨a1,a2⟩:=ih ((bnds_no hb).2 _ (by simp)) (((jo _ _ _ _ _ _).1 hn).2.2 _ (by simp));rw[bare_not (by omega)];exact⟨.ptr h1 a1,ne2_bare (kids:=[t]) (by omega) (by omega) (by simp[a2])⟩
 | @fn b l nm n f a xs t x h1 h2 hl _ _ hu ih1 ih2=>
  intro hb hn;have hb:=(bnds_no hb).2;have hn:=((jo _ _ _ _ _ _).1 hn).2.2;have hk:=fun i (hi:i < a.length)=>ih1 i hi (hb _ (List.mem_append_left _ (ybi hi))) (hn _ (List.mem_append_left _ (ybi hi)));obtain⟨a1,a2⟩:=ih2 (hb _ (by simp)) (hn _ (by simp));rw[bare_not (by decide)];refine⟨?_,ne2_bare (by decide) (by decide) fun y hy=>?_⟩
  ·have h:=qq.fn (ng:=false) (b:=b) (l:=l) (nm:=nm) (n:=n) (f:=f) (a:=a.map ya.bare) (xs:=xs) (t:=t.bare) (x:=x) h1 h2 (by rw[List.length_map];exact hl) (fun i hi=>by
    rw[List.length_map] at hi;rw[getD_bare hi];exact(hk i hi).1) a1 (by rw[unit_bare];exact hu)
   rw[u_bare] at h;rw[List.map_append];exact h
  ·rcases List.mem_append.1 hy with hy|hy
   ·obtain⟨i,hi,rfl⟩:=List.getElem_of_mem hy
    have:=(hk i hi).2
    rwa[lgd,lge hi] at this
   ·rw[List.mem_singleton.1 hy];exact a2
 | @dyn b l nm n m f a xs l2 nm2 f2 h1 h2 h3 hl _ ih=>
  intro hb hn;have hb:=(bnds_no hb).2;have hn:=((jo _ _ _ _ _ _).1 hn).2.2;have hk:=fun i (hi:i < a.length)=>ih i hi (hb _ (List.mem_append_left _ (ybi hi))) (hn _ (List.mem_append_left _ (ybi hi)));rw[bare_not (by decide)];have hlf:(ya.mk 19 l2 nm2 m f2 []).bare=.mk 19 l2 nm2 m f2 []:=bare_not (by decide);refine⟨?_,ne2_bare (by decide) (by decide) fun y hy=>?_⟩
  ·have h:=qq.dyn (ng:=false) (b:=b) (l:=l) (nm:=nm) (n:=n) (m:=m) (f:=f) (a:=a.map ya.bare) (xs:=xs) (l2:=l2) (nm2:=nm2) (f2:=f2) h1 h2 (by simpa using h3) (by rw[List.length_map];exact hl) (fun i hi=>by
    rw[List.length_map] at hi;rw[getD_bare hi];exact(hk i hi).1)
   rw[List.map_append,List.map_cons,hlf];exact h
  ·rcases List.mem_append.1 hy with hy|hy
   ·obtain⟨i,hi,rfl⟩:=List.getElem_of_mem hy
    have:=(hk i hi).2
    rwa[lgd,lge hi] at this
   ·rw[List.mem_singleton.1 hy,hlf];exact(yzs _ _ _ _ _ _).2 ⟨fun h=>absurd h (by decide),fun h=>absurd h (by decide),by simp⟩
 | life h=>intro _ _;rw[bare_not (by decide)];exact⟨.life h,ne2_bare (kids:=[]) (by decide) (by decide) (by simp)⟩
 | argC _ ih=>intro hb hn;obtain⟨a1,a2⟩:=ih hb hn;exact⟨.argC a1,a2⟩
 | argT _ ih=>intro hb hn;obtain⟨a1,a2⟩:=ih hb hn;exact⟨.argT a1,a2⟩
 | num h=>intro _ hn;have hn:=((jo _ _ _ _ _ _).1 hn).2.1;rw[bare_not (by decide)];exact⟨.num h,(yzs _ _ _ _ _ _).2 ⟨fun h=>absurd h (by decide),hn,by simp⟩⟩
 | hole=>intro _ _;rw[bare_not (by decide)];exact⟨.hole,ne2_bare (kids:=[]) (by decide) (by decide) (by simp)⟩
 | @bound0 b l nm n f p x _ ih=>
  intro hb hn;obtain⟨a1,a2⟩:=ih ((bnds_no hb).2 _ (by simp)) (((jo _ _ _ _ _ _).1 hn).2.2 _ (by simp));rw[bare_not (by decide)];exact⟨.bound0 a1,(yzs _ _ _ _ _ _).2 ⟨fun _ h=>by simp at h,fun h=>absurd h (by decide),by simp[a2]⟩⟩
 | @boundP b l nm n f p x a xs hk ha hl h1=>
  intro hb
  exfalso
  have hp:=List.length_pos_iff.2 ha;obtain⟨nm2,n2,f2,l2,t,he,-⟩:=h1 0 hp;have:=(bnds_no hb).2 _ (List.mem_cons_of_mem _ (ybi hp));rw[he] at this;exact(bnds_no this).1 rfl
 | @boundG b l nm n f l3 nm3 n3 f3 q x a c xs ys hyl _ _ ha hl h1=>
  intro hb
  exfalso
  have hp:=List.length_pos_iff.2 ha;obtain⟨nm2,n2,f2,l2,t,he,-⟩:=h1 0 hp;have:=(bnds_no hb).2 _ (List.mem_cons_of_mem _ (ybi hp));rw[he] at this;exact(bnds_no this).1 rfl
theorem bare_text {t:ya}{how:List Int}{x:List UInt8}(hF:Fit t how)(hb:t.bnds=false)(hx:qq true (.path true) 0 t x):yam 0 true t.bare x/\x.length<=600000:=by
 obtain⟨g1,g2⟩:=says_bare hx hb hF.ne;have hw:=wt_bare _ t (Nat.le_refl _);have hw2:=hF.wt;obtain⟨h1,h2⟩:=yzt g1 (by omega) (by omega) g2;exact⟨h2.2,by omega⟩
end Go.Proofs.YtfckcdbpiepchaaGreatDoor
