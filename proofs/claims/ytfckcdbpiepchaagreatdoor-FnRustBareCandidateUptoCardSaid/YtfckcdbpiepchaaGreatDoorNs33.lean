import Derived.Test.YtfckcdbpiepchaaGreatDoorNs32
import Derived.WalkMore
namespace Go.Proofs.YtfckcdbpiepchaaGreatDoor
open Go.RowKit
set_option maxRecDepth 100000
set_option maxHeartbeats 8000000
set_option linter.all false
theorem xk {α:Type}(x:Option (Option α)):ye x (fun z=>some (some z))=x:=by rcases x with _|_|z<;>rfl
theorem yxg {rec:Rec}(H:yy rec)(hO:z7 rec){w:World}{p:Nat}{st:RS}{r:List UInt8}{x:Option (RS×Bool)}(f:RAt w p st)(i:st.Wg)(h:Env p w)(u:st.str=65::r)
  (j:(ye (wS [91] (st.go r)) fun s=>ye (rec .type s) fun z=>ye (wS [59,32] z.1) fun s=>ye (rec .const s) fun z=>asU (wS [93] z.1))=some x):Calls Tryz.prog 126 #[.pointer (some ⟨p,0,none⟩)] w fun e w'=>jj .type p w x e w':=by
 have g:=Upd.refl p w;have A:=f.str;rw[u] at A;have y:=lh u;clear u
 go_enter Tryz.func126,Tryz.ntmps126
 go_wp2_with fail
 refine(yh f i.wf y).mono ?_;rintro e q ⟨rfl,b,a⟩;have c:(st.go r).Wg:=i.go (by rw[y.out];simp);have d:=j;clear A;replace h:=h.upd f a;replace g:=g.trans a;replace f:=b;replace i:=c;replace j:=d;clear b c a d
 go_wp2_with fail
 refine zt 91 f i j fun q b c a d=>?_;replace h:=h.upd f a;replace g:=g.trans a;replace f:=b;replace i:=c;replace j:=d;clear b c a d
 go_wp2_with fail
 refine jt H f i h j (fun e B t n=>?_) (fun z q b c a d=>?_)
 ·subst n;obtain⟨m,o,v,rfl,k,l⟩:=t;go_wp2;exact⟨rfl,m,o,v,rfl,k,g.trans l⟩
 replace h:=h.upd f a;replace g:=g.trans a;replace f:=b;replace i:=c;replace j:=d;clear b c a d
 go_wp2_with fail
 refine zv [59,32] f i j fun q b c a d=>?_;replace h:=h.upd f a;replace g:=g.trans a;replace f:=b;replace i:=c;replace j:=d;clear b c a d
 go_wp2_with fail
 refine yjd H f i h j (fun e B t n=>?_) (fun z q b c a d=>?_)
 ·subst n;obtain⟨m,o,v,rfl,k,l⟩:=t;go_wp2;exact⟨rfl,m,o,v,rfl,k,g.trans l⟩
 replace h:=h.upd f a;replace g:=g.trans a;replace f:=b;replace i:=c;replace j:=d;clear b c a d
 go_wp2_with fail
 refine zt 93 f i j fun q b c a d=>?_;replace h:=h.upd f a;replace g:=g.trans a;replace f:=b;replace i:=c;replace j:=d;clear b c a d;obtain rfl:=Option.some.inj j;go_wp2;go_end0;exact⟨⟨rfl,f,g⟩,i⟩
theorem yw8 {rec:Rec}(H:yy rec)(hO:z7 rec){w:World}{p:Nat}{st:RS}{r:List UInt8}{x:Option (RS×Bool)}(f:RAt w p st)(h:st.Wg)(i:Env p w)(n:st.str=83::r)
  (j:(ye (wS [91] (st.go r)) fun s=>ye (rec .type s) fun z=>asU (wS [93] z.1))=some x):Calls Tryz.prog 126 #[.pointer (some ⟨p,0,none⟩)] w fun e w'=>jj .type p w x e w':=by
 have g:=Upd.refl p w;have v:=f.str;rw[n] at v;have u:=lh n;clear n
 go_enter Tryz.func126,Tryz.ntmps126
 go_wp2_with fail
 refine(yh f h.wf u).mono ?_;rintro e t ⟨rfl,b,a⟩;have c:(st.go r).Wg:=h.go (by rw[u.out];simp);have d:=j;clear v;replace i:=i.upd f a;replace g:=g.trans a;replace f:=b;replace h:=c;replace j:=d;clear b c a d
 go_wp2_with fail
 refine zt 91 f h j fun t b c a d=>?_;replace i:=i.upd f a;replace g:=g.trans a;replace f:=b;replace h:=c;replace j:=d;clear b c a d
 go_wp2_with fail
 refine jt H f h i j (fun e B y q=>?_) (fun z t b c a d=>?_)
 ·subst q;obtain⟨m,o,A,rfl,k,l⟩:=y;go_wp2;exact⟨rfl,m,o,A,rfl,k,g.trans l⟩
 replace i:=i.upd f a;replace g:=g.trans a;replace f:=b;replace h:=c;replace j:=d;clear b c a d
 go_wp2_with fail
 refine zt 93 f h j fun t b c a d=>?_;replace i:=i.upd f a;replace g:=g.trans a;replace f:=b;replace h:=c;replace j:=d;clear b c a d;obtain rfl:=Option.some.inj j;go_wp2;go_end0;exact⟨⟨rfl,f,g⟩,h⟩
theorem yxb {rec:Rec}(H:yy rec)(hO:z7 rec){w:World}{p:Nat}{st:RS}{r:List UInt8}{x:Option (RS×Bool)}(f:RAt w p st)(i:st.Wg)(j:Env p w)(n:st.str=80::r)
  (g:(ye (wS [42,99,111,110,115,116,32] (st.go r)) fun s=>rec .type s)=some x):Calls Tryz.prog 126 #[.pointer (some ⟨p,0,none⟩)] w fun e w'=>jj .type p w x e w':=by
 have h:=Upd.refl p w;have u:=f.str;rw[n] at u;have t:=lh n;clear n
 go_enter Tryz.func126,Tryz.ntmps126
 go_wp2_with fail
 refine(yh f i.wf t).mono ?_;rintro e v ⟨rfl,b,a⟩;have c:(st.go r).Wg:=i.go (by rw[t.out];simp);have d:=g;clear u;replace j:=j.upd f a;replace h:=h.trans a;replace f:=b;replace i:=c;replace g:=d;clear b c a d
 go_wp2_with fail
 refine zv [42,99,111,110,115,116,32] f i g fun v b c a d=>?_;replace j:=j.upd f a;replace h:=h.trans a;replace f:=b;replace i:=c;replace g:=d;clear b c a d;replace g:=(xk _).trans g
 go_wp2_with fail
 refine jt H f i j g (fun e B y q=>?_) (fun z v b c a d=>?_)
 ·subst q;obtain⟨m,o,A,rfl,k,l⟩:=y;go_wp2;exact⟨rfl,m,o,A,rfl,k,h.trans l⟩
 replace j:=j.upd f a;replace h:=h.trans a;replace f:=b;replace i:=c;replace g:=d;clear b c a d;obtain rfl:=Option.some.inj g;go_wp2;go_end0;exact⟨⟨rfl,f,h⟩,i⟩
theorem yxc {rec:Rec}(H:yy rec)(hO:z7 rec){w:World}{p:Nat}{st:RS}{r:List UInt8}{x:Option (RS×Bool)}(f:RAt w p st)(i:st.Wg)(j:Env p w)(n:st.str=79::r)
  (g:(ye (wS [42,109,117,116,32] (st.go r)) fun s=>rec .type s)=some x):Calls Tryz.prog 126 #[.pointer (some ⟨p,0,none⟩)] w fun e w'=>jj .type p w x e w':=by
 have h:=Upd.refl p w;have u:=f.str;rw[n] at u;have t:=lh n;clear n
 go_enter Tryz.func126,Tryz.ntmps126
 go_wp2_with fail
 refine(yh f i.wf t).mono ?_;rintro e v ⟨rfl,b,a⟩;have c:(st.go r).Wg:=i.go (by rw[t.out];simp);have d:=g;clear u;replace j:=j.upd f a;replace h:=h.trans a;replace f:=b;replace i:=c;replace g:=d;clear b c a d
 go_wp2_with fail
 refine zv [42,109,117,116,32] f i g fun v b c a d=>?_;replace j:=j.upd f a;replace h:=h.trans a;replace f:=b;replace i:=c;replace g:=d;clear b c a d;replace g:=(xk _).trans g
 go_wp2_with fail
 refine jt H f i j g (fun e B y q=>?_) (fun z v b c a d=>?_)
 ·subst q;obtain⟨m,o,A,rfl,k,l⟩:=y;go_wp2;exact⟨rfl,m,o,A,rfl,k,h.trans l⟩
 replace j:=j.upd f a;replace h:=h.trans a;replace f:=b;replace i:=c;replace g:=d;clear b c a d;obtain rfl:=Option.some.inj g;go_wp2;go_end0;exact⟨⟨rfl,f,h⟩,i⟩
theorem yxf {rec:Rec}(H:yy rec)(hO:z7 rec){w:World}{p:Nat}{st:RS}{r:List UInt8}{x:Option (RS×Bool)}(g:RAt w p st)(k:st.Wg)(j:Env p w)(d:st.str=66::r)
  (l:yal rec .type st=some x):Calls Tryz.prog 126 #[.pointer (some ⟨p,0,none⟩)] w fun e w'=>jj .type p w x e w':=by
 have q:=Upd.refl p w;have i:=g.str;rw[d] at i;have n:=lh d;clear d
 go_enter Tryz.func126,Tryz.ntmps126
 go_wp2_with fail
 refine(yjl H hO (.inl rfl) g k j l).mono ?_;intro e s h
 rcases x with _|z
 ·obtain⟨m,o,f,rfl,a,b⟩:=h
  go_wp2;exact⟨rfl,m,o,f,rfl,a,b⟩
 ·obtain⟨⟨rfl,a,b⟩,c⟩:=h
  go_wp2;go_end0
  exact⟨⟨rfl,a,b⟩,c⟩
theorem yui {rec:Rec}(H:yy rec)(hO:z7 rec){w:World}{p:Nat}{st:RS}{r:List UInt8}{x:Option (RS×Bool)}(b:RAt w p st)(l:st.Wg)(i:Env p w)(n:st.str=67::r)
  (f:rec (.path false) st=some x):Calls Tryz.prog 126 #[.pointer (some ⟨p,0,none⟩)] w fun e w'=>jj .type p w x e w':=by
 have h:=Upd.refl p w;have t:=b.str;rw[n] at t;have s:=lh n;clear n
 go_enter Tryz.func126,Tryz.ntmps126
 replace f:=(xk _).trans f;clear s
 go_wp2_with fail
 refine ki H b l i f (fun e A u q=>?_) (fun z y c d a g=>?_)
 ·subst q;obtain⟨m,o,v,rfl,j,k⟩:=u;go_wp2;exact⟨rfl,m,o,v,rfl,j,h.trans k⟩
 replace i:=i.upd b a;replace h:=h.trans a;replace b:=c;replace l:=d;replace f:=g;clear c d a g;obtain rfl:=Option.some.inj f;go_wp2;go_end0;exact⟨⟨rfl,b,h⟩,l⟩
theorem yug {rec:Rec}(H:yy rec)(hO:z7 rec){w:World}{p:Nat}{st:RS}{r:List UInt8}{x:Option (RS×Bool)}(b:RAt w p st)(l:st.Wg)(i:Env p w)(n:st.str=77::r)
  (f:rec (.path false) st=some x):Calls Tryz.prog 126 #[.pointer (some ⟨p,0,none⟩)] w fun e w'=>jj .type p w x e w':=by
 have h:=Upd.refl p w;have t:=b.str;rw[n] at t;have s:=lh n;clear n
 go_enter Tryz.func126,Tryz.ntmps126
 replace f:=(xk _).trans f;clear s
 go_wp2_with fail
 refine ki H b l i f (fun e A u q=>?_) (fun z y c d a g=>?_)
 ·subst q;obtain⟨m,o,v,rfl,j,k⟩:=u;go_wp2;exact⟨rfl,m,o,v,rfl,j,h.trans k⟩
 replace i:=i.upd b a;replace h:=h.trans a;replace b:=c;replace l:=d;replace f:=g;clear c d a g;obtain rfl:=Option.some.inj f;go_wp2;go_end0;exact⟨⟨rfl,b,h⟩,l⟩
theorem yue {rec:Rec}(H:yy rec)(hO:z7 rec){w:World}{p:Nat}{st:RS}{r:List UInt8}{x:Option (RS×Bool)}(b:RAt w p st)(l:st.Wg)(i:Env p w)(n:st.str=88::r)
  (f:rec (.path false) st=some x):Calls Tryz.prog 126 #[.pointer (some ⟨p,0,none⟩)] w fun e w'=>jj .type p w x e w':=by
 have h:=Upd.refl p w;have t:=b.str;rw[n] at t;have s:=lh n;clear n
 go_enter Tryz.func126,Tryz.ntmps126
 replace f:=(xk _).trans f;clear s
 go_wp2_with fail
 refine ki H b l i f (fun e A u q=>?_) (fun z y c d a g=>?_)
 ·subst q;obtain⟨m,o,v,rfl,j,k⟩:=u;go_wp2;exact⟨rfl,m,o,v,rfl,j,h.trans k⟩
 replace i:=i.upd b a;replace h:=h.trans a;replace b:=c;replace l:=d;replace f:=g;clear c d a g;obtain rfl:=Option.some.inj f;go_wp2;go_end0;exact⟨⟨rfl,b,h⟩,l⟩
theorem yud {rec:Rec}(H:yy rec)(hO:z7 rec){w:World}{p:Nat}{st:RS}{r:List UInt8}{x:Option (RS×Bool)}(b:RAt w p st)(l:st.Wg)(i:Env p w)(n:st.str=89::r)
  (f:rec (.path false) st=some x):Calls Tryz.prog 126 #[.pointer (some ⟨p,0,none⟩)] w fun e w'=>jj .type p w x e w':=by
 have h:=Upd.refl p w;have t:=b.str;rw[n] at t;have s:=lh n;clear n
 go_enter Tryz.func126,Tryz.ntmps126
 replace f:=(xk _).trans f;clear s
 go_wp2_with fail
 refine ki H b l i f (fun e A u q=>?_) (fun z y c d a g=>?_)
 ·subst q;obtain⟨m,o,v,rfl,j,k⟩:=u;go_wp2;exact⟨rfl,m,o,v,rfl,j,h.trans k⟩
 replace i:=i.upd b a;replace h:=h.trans a;replace b:=c;replace l:=d;replace f:=g;clear c d a g;obtain rfl:=Option.some.inj f;go_wp2;go_end0;exact⟨⟨rfl,b,h⟩,l⟩
theorem yuf {rec:Rec}(H:yy rec)(hO:z7 rec){w:World}{p:Nat}{st:RS}{r:List UInt8}{x:Option (RS×Bool)}(b:RAt w p st)(l:st.Wg)(i:Env p w)(n:st.str=78::r)
  (f:rec (.path false) st=some x):Calls Tryz.prog 126 #[.pointer (some ⟨p,0,none⟩)] w fun e w'=>jj .type p w x e w':=by
 have h:=Upd.refl p w;have t:=b.str;rw[n] at t;have s:=lh n;clear n
 go_enter Tryz.func126,Tryz.ntmps126
 replace f:=(xk _).trans f;clear s
 go_wp2_with fail
 refine ki H b l i f (fun e A u q=>?_) (fun z y c d a g=>?_)
 ·subst q;obtain⟨m,o,v,rfl,j,k⟩:=u;go_wp2;exact⟨rfl,m,o,v,rfl,j,h.trans k⟩
 replace i:=i.upd b a;replace h:=h.trans a;replace b:=c;replace l:=d;replace f:=g;clear c d a g;obtain rfl:=Option.some.inj f;go_wp2;go_end0;exact⟨⟨rfl,b,h⟩,l⟩
theorem yuh {rec:Rec}(H:yy rec)(hO:z7 rec){w:World}{p:Nat}{st:RS}{r:List UInt8}{x:Option (RS×Bool)}(b:RAt w p st)(l:st.Wg)(i:Env p w)(n:st.str=73::r)
  (f:rec (.path false) st=some x):Calls Tryz.prog 126 #[.pointer (some ⟨p,0,none⟩)] w fun e w'=>jj .type p w x e w':=by
 have h:=Upd.refl p w;have t:=b.str;rw[n] at t;have s:=lh n;clear n
 go_enter Tryz.func126,Tryz.ntmps126
 replace f:=(xk _).trans f;clear s
 go_wp2_with fail
 refine ki H b l i f (fun e A u q=>?_) (fun z y c d a g=>?_)
 ·subst q;obtain⟨m,o,v,rfl,j,k⟩:=u;go_wp2;exact⟨rfl,m,o,v,rfl,j,h.trans k⟩
 replace i:=i.upd b a;replace h:=h.trans a;replace b:=c;replace l:=d;replace f:=g;clear c d a g;obtain rfl:=Option.some.inj f;go_wp2;go_end0;exact⟨⟨rfl,b,h⟩,l⟩
theorem yxd {rec:Rec}(H:yy rec)(hO:z7 rec){w:World}{p:Nat}{st:RS}{r:List UInt8}{x:Option (RS×Bool)}(b:RAt w p st)(g:st.Wg)(j:Env p w)(u:st.str=70::r)
  (k:(ye (fnM rec (st.go r)) fun s=>some (some ({ s with life:=st.life },false)))=some x):Calls Tryz.prog 126 #[.pointer (some ⟨p,0,none⟩)] w fun e w'=>jj .type p w x e w':=by
 have i:=Upd.refl p w;have B:=b.str;rw[u] at B;have A:=lh u;clear u
 go_enter Tryz.func126,Tryz.ntmps126
 go_wp2_with fail
 refine(yh b g.wf A).mono ?_;rintro e G ⟨rfl,c,a⟩;have d:(st.go r).Wg:=g.go (by rw[A.out];simp);have f:=k;clear B;replace j:=j.upd b a;replace i:=i.trans a;replace b:=c;replace g:=d;replace k:=f;clear c d a f;have E:_=some (Value.int .i64 st.life):=b.life;have q:=g.l0;have t:=g.l1
 go_wp2_with fail
 refine ji (fun z h=>yyr H b g j h) k (fun e J D y=>?_) (fun I G v c d a f=>?_)
 ·subst y;obtain⟨m,o,F,rfl,l,n⟩:=D;go_wp2;exact⟨rfl,m,o,F,rfl,l,i.trans n⟩
 replace j:=j.upd b a;replace i:=i.trans a;replace b:=c;replace g:=d;replace k:=f;clear c d a f;clear v;have C:=b.life;have f6:=b.free 6;obtain rfl:=Option.some.inj k;go_wp2;go_end0;exact⟨⟨rfl,b.set_life st.life,i.set 6 _ (by omega)⟩,⟨g.o0,g.o1,g.o2,q,t⟩⟩
theorem yxh {w:World}{p:Nat}{st:RS}(d:RAt w p st)(f:st.str=[]):Calls Tryz.prog 126 #[.pointer (some ⟨p,0,none⟩)] w fun e w'=>va p w e w':=by
 have g:=d.str;rw[f] at g;clear f
 go_enter Tryz.func126,Tryz.ntmps126
 go_wp2_with(go_at_call 70;refine(yu d).mono ?_;rintro e h ⟨m,o,c,rfl,a,b⟩)
 exact⟨rfl,m,o,c,rfl,a,b⟩
theorem yw4 {w:World}{p:Nat}{st:RS}{c:UInt8}{r:List UInt8}(f:RAt w p st)(g:st.str=c::r)(hb:¬ (97<=c.toNat/\c.toNat<=122))
  (h:∀ n,n∈[67,77,88,89,78,73,65,83,84,82,81,80,79,70,68,66]->c≠UInt8.ofNat n) :
  Calls Tryz.prog 126 #[.pointer (some ⟨p,0,none⟩)] w fun e w'=>va p w e w':=by
 have i:=f.str;rw[g] at i;clear g;have j:decide (97<=(c.toNat:Int))=false\/decide (97<=(c.toNat:Int))=true/\decide ((c.toNat:Int)<=122)=false:=by simp only[decide_eq_false_iff_not,decide_eq_true_eq];omega
 have q:=qy (n:=67) (by omega) (h 67 (by decide));have v:=qy (n:=77) (by omega) (h 77 (by decide));have E:=qy (n:=88) (by omega) (h 88 (by decide));have F:=qy (n:=89) (by omega) (h 89 (by decide));have x:=qy (n:=78) (by omega) (h 78 (by decide));have u:=qy (n:=73) (by omega) (h 73 (by decide));have k:=qy (n:=65) (by omega) (h 65 (by decide));have C:=qy (n:=83) (by omega) (h 83 (by decide));have D:=qy (n:=84) (by omega) (h 84 (by decide));have B:=qy (n:=82) (by omega) (h 82 (by decide));have A:=qy (n:=81) (by omega) (h 81 (by decide));have z:=qy (n:=80) (by omega) (h 80 (by decide));have y:=qy (n:=79) (by omega) (h 79 (by decide));have t:=qy (n:=70) (by omega) (h 70 (by decide));have s:=qy (n:=68) (by omega) (h 68 (by decide));have l:=qy (n:=66) (by omega) (h 66 (by decide));clear h hb
 rcases j with l1|⟨l1,l2⟩
 all_goals
  go_enter Tryz.func126,Tryz.ntmps126
  go_wp2_with(go_at_call 70;refine(yu f).mono ?_;rintro e G ⟨m,o,d,rfl,a,b⟩)
  exact⟨rfl,m,o,d,rfl,a,b⟩
theorem yw6 {rec:Rec}{w:World}{p:Nat}{st:RS}{c:UInt8}{r:List UInt8}{x:Option (RS×Bool)}(b:RAt w p st)(n:st.Wg)(j:Env p w)(u:st.str=c::r)(hb:97<=c.toNat/\c.toNat<=122)(s:asU (yev st)=some x) :
  Calls Tryz.prog 126 #[.pointer (some ⟨p,0,none⟩)] w fun e w'=>jj .type p w x e w':=by
 have i:=Upd.refl p w;have v:=b.str;rw[u] at v;clear u;have l1:decide (97<=(c.toNat:Int))=true:=by simp;omega
 have l2:decide ((c.toNat:Int)<=122)=true:=by simp;omega
 clear hb
 go_enter Tryz.func126,Tryz.ntmps126
 go_wp2_with fail
 refine ji (fun z h=>yqj b n j h) s (fun e D y t=>?_) (fun B C q d f a g=>?_)
 ·subst t;obtain⟨m,o,A,rfl,k,l⟩:=y;go_wp2;exact⟨rfl,m,o,A,rfl,k,i.trans l⟩
 replace j:=j.upd b a;replace i:=i.trans a;replace b:=d;replace n:=f;replace s:=g;clear d f a g;clear q;obtain rfl:=Option.some.inj s;go_wp2;go_end0;exact⟨⟨rfl,b,i⟩,n⟩
theorem ybz.seta {w:World}{p a:Nat}{v:Value}(hb:Bx w p a v)(d:Value):ybz p a w (w.setCell ⟨a,0,none⟩ d):=
 ⟨rfl,rfl,rfl,by simp[World.setCell],fun k e f b g=>Below.heap_setCell _ _ _ _ b,fun k c=>.inl (by rwa[ydx hb.2.1] at c)⟩
theorem yut {rec:Rec}(H:yy rec){w w0:World}{p a0 a:Nat}{i:RS}{j:Option (RS×Bool)}{v:Bool}(q:Upd p w0 w)(B:rec .psg i=some j)(y:RAt w p i)(A:i.Wg)(x:Env p w)
  (l:Bx w0 p a0 (.pointer (some ⟨p,0,none⟩))) (n:Bx w0 p a (.bool v)) (g:∀ w',Upd p w0 w'->w'.frozen? ⟨a,0,none⟩=false) :
  Calls Tryz.prog 195 #[.pointer (some ⟨a0,0,none⟩),.pointer (some ⟨a,0,none⟩)] w fun e w'=>ywg p a (fun b w=>Bx w p a (.bool b)) w j e w':=by
 have c0:=(l.upd q).1;have u:=H .psg i j B A w p y x;have t:=lh g;clear g
 go_enter Tryz.func195,Tryz.ntmps195
 go_wp2_with fail
 refine(show Calls Tryz.prog 187 #[.pointer (some ⟨p,0,none⟩)] w _ from u).mono ?_;intro e D h
 rcases j with _|z
 ·obtain⟨m,o,s,rfl,f,c⟩:=h
  go_wp2;exact⟨rfl,m,o,s,rfl,f,c⟩
 ·obtain⟨⟨k,f,c⟩,r⟩:=h
  replace k:e=.returned (.bool z.2):=k;subst k;have d:=(n.upd q).upd c;have c1:=d.1;have C:=t.out _ (q.trans c);go_wp2;go_end0;exact⟨rfl,f.bx d _,r,(ybz.of c).trans (ybz.seta d _),d.put _⟩
theorem yv6 {w w':World}{p k:Nat}{v:Value}(h:Bx w p k v)(e:w.frozen? ⟨k,0,none⟩=false)(d:Upd p w w'):w'.frozen? ⟨k,0,none⟩=false:=by
 obtain⟨f,a,b,c⟩:=h;rw[World.frozen?_of_block (w:=w) (d.block k c a b)];exact e
theorem psg_I {rec:Rec}(H:yy rec)(hO:z7 rec){w:World}{p:Nat}{st:RS}{r:List UInt8}{x:Option (RS×Bool)}(i:RAt w p st)(n:st.Wg)(k:Env p w)(F:st.str=73::r)
  (u:(ye (rec (.path false) (st.go r)) fun z=>ye (wS [60] z.1) fun s=>ye (ycd rec s) fun s=>ye (yb0 69 s) fun s=>some (some (s,true)))=some x):Calls Tryz.prog 187 #[.pointer (some ⟨p,0,none⟩)] w fun e w'=>jj .psg p w x e w':=by
 obtain⟨C,y,b⟩:RAt (w.alloc (Obj.cells #[.pointer (some ⟨p,0,none⟩)] 99)) p st/\Upd p w (w.alloc (Obj.cells #[.pointer (some ⟨p,0,none⟩)] 99))/\Bx (w.alloc (Obj.cells #[.pointer (some ⟨p,0,none⟩)] 99)) p w.heap.size (.pointer (some ⟨p,0,none⟩)):=
  ⟨i.alloc _,Upd.alloc i _,Bx.new i _ _⟩
 replace k:=k.upd i y;replace i:=C;have l:=y;have I:=i.str;rw[F] at I;have j:=b.1;have G:=lh F;clear F C y
 go_enter Tryz.func187,Tryz.ntmps187
 go_wp2_with fail
 refine(yh i n.wf G).mono ?_;rintro e E ⟨rfl,d,a⟩;have f:(st.go r).Wg:=n.go (by rw[G.out];simp);have g:=u;clear I;replace k:=k.upd i a;replace l:=l.trans a;replace b:=b.upd a;replace j:=b.1;replace i:=d;replace n:=f;replace u:=g;clear d f a g
 go_wp2_with fail
 refine ki H i n k u (fun e J B v=>?_) (fun z E d f a g=>?_)
 ·subst v;obtain⟨m,o,D,rfl,q,t⟩:=B;go_wp2;exact⟨rfl,m,o,D,rfl,q,l.trans t⟩
 replace k:=k.upd i a;replace l:=l.trans a;replace b:=b.upd a;replace j:=b.1;replace i:=d;replace n:=f;replace u:=g;clear d f a g
 go_wp2_with fail
 refine zt 60 i n u fun E d f a g=>?_;replace k:=k.upd i a;replace l:=l.trans a;replace b:=b.upd a;replace j:=b.1;replace i:=d;replace n:=f;replace u:=g;clear d f a g
 go_wp2_with fail
 refine ji (fun z h=>yft H i n k h) u (fun e J B v=>?_) (fun K E A d f a g=>?_)
 ·subst v;obtain⟨m,o,D,rfl,q,t⟩:=B;go_wp2;exact⟨rfl,m,o,D,rfl,q,l.trans t⟩
 replace k:=k.upd i a;replace l:=l.trans a;replace b:=b.upd a;replace j:=b.1;replace i:=d;replace n:=f;replace u:=g;clear d f a g;clear A
 go_wp2_with fail
 refine ji (fun z h=>yb9 (c:=69) i n yer h) u (fun e J B v=>?_) (fun K E A d f a g=>?_)
 ·subst v;obtain⟨m,o,D,rfl,q,t⟩:=B;go_wp2;exact⟨rfl,m,o,D,rfl,q,l.trans t⟩
 replace k:=k.upd i a;replace l:=l.trans a;replace b:=b.upd a;replace j:=b.1;replace i:=d;replace n:=f;replace u:=g;clear d f a g;clear A;obtain rfl:=Option.some.inj u;go_wp2;go_ret;exact⟨⟨rfl,i,l⟩,n⟩
theorem psg_B {rec:Rec}(H:yy rec)(hO:z7 rec){w:World}{p:Nat}{st:RS}{r:List UInt8}{x:Option (RS×Bool)}(k:RAt w p st)(K:st.Wg)(J:Env p w)(M:st.str=66::r)
  (N:yal rec .psg st=some x):Calls Tryz.prog 187 #[.pointer (some ⟨p,0,none⟩)] w fun e w'=>jj .psg p w x e w':=by
 have L:∀ (fn:Fn) (first cap:Array Value) (w:World),(Instr.makeFunc fn first cap).run Tryz.prog w=.ok (.func fn first cap) w:=fun _ _ _ _=>rfl;have s:=Bx.new k (.pointer (some ⟨p,0,none⟩)) 99;have l:=(k.alloc (Obj.cells #[.pointer (some ⟨p,0,none⟩)] 99)).str;rw[M] at l;have C:=s.1;obtain⟨q,f,j,c⟩:=yyg k (.bool false) 4;have B:=j.1;have t:((w.alloc (Obj.cells #[.pointer (some ⟨p,0,none⟩)] 99)).alloc (Obj.cells #[.bool false] 4)).frozen? ⟨w.heap.size+1,0,none⟩=false:=by
  simp[go_sem]
 have n:=J.upd k f;have y:w.heap.size+1 < ((w.alloc (Obj.cells #[.pointer (some ⟨p,0,none⟩)] 99)).alloc (Obj.cells #[.bool false] 4)).heap.size:=by simp
 go_enter Tryz.func187,Tryz.ntmps187
 go_wp2_with fail
 refine(yh2 hO (a:=w.heap.size+1) q K n N 195 #[] #[.pointer (some ⟨w.heap.size,0,none⟩),.pointer (some ⟨w.heap.size+1,0,none⟩)] (fun args w=>by kernel_rfl) y (fun b v=>Bx v p (w.heap.size+1) (.bool b)) ?_ ?_ ?_).mono ?_
 ·intro b w' i v hi h
  exact Bx.set h hi v
 ·intro w' h
  exact c.upd h
 ·intro O Q w' l D E F G
  exact yut H G l D E F j c (fun w' I=>yv6 c t I)
 ·intro e P h
  rcases x with _|z
  ·obtain⟨m,o,A,rfl,d,g⟩:=h
   go_wp2;exact⟨rfl,m,o,A,rfl,d,f.trans g⟩
  ·obtain⟨rfl,d,u,g,hd⟩:=h
   have c2:=hd.1;go_wp2;go_ret;exact⟨⟨rfl,d,ybz.less f g (by omega)⟩,u⟩
theorem psg_o {rec:Rec}(H:yy rec){w:World}{p:Nat}{st:RS}{c:UInt8}{r:List UInt8}{x:Option (RS×Bool)}(a:RAt w p st)(y:st.Wg)(j:Env p w)(A:st.str=c::r)(i:c≠73)(h:c≠66)
  (B:(ye (rec (.path false) st) fun z=>some (some (z.1,false)))=some x):Calls Tryz.prog 187 #[.pointer (some ⟨p,0,none⟩)] w fun e w'=>jj .psg p w x e w':=by
 obtain⟨k,f,b⟩:RAt (w.alloc (Obj.cells #[.pointer (some ⟨p,0,none⟩)] 99)) p st/\Upd p w (w.alloc (Obj.cells #[.pointer (some ⟨p,0,none⟩)] 99))/\Bx (w.alloc (Obj.cells #[.pointer (some ⟨p,0,none⟩)] 99)) p w.heap.size (.pointer (some ⟨p,0,none⟩)):=
  ⟨a.alloc _,Upd.alloc a _,Bx.new a _ _⟩
 replace j:=j.upd a f;replace a:=k;have t:=f;have D:=a.str;rw[A] at D;have g:=b.1;have J:=lh A;clear A k f;have G:=qy (n:=73) (by omega) i;have F:=qy (n:=66) (by omega) h;clear i h
 go_enter Tryz.func187,Tryz.ntmps187
 go_wp2_with fail
 refine ki H a y j B (fun e L E C=>?_) (fun z K l q d s=>?_)
 ·subst C;obtain⟨m,o,I,rfl,u,v⟩:=E;go_wp2;exact⟨rfl,m,o,I,rfl,u,t.trans v⟩
 replace j:=j.upd a d;replace t:=t.trans d;replace b:=b.upd d;replace g:=b.1;replace a:=l;replace y:=q;replace B:=s;clear l q d s;obtain rfl:=Option.some.inj B;go_wp2;go_ret;exact⟨⟨rfl,a,t⟩,y⟩
theorem psg_0 {w:World}{p:Nat}{st:RS}(b:RAt w p st)(j:st.str=[]):Calls Tryz.prog 187 #[.pointer (some ⟨p,0,none⟩)] w fun e w'=>va p w e w':=by
 have g:=Bx.new b (.pointer (some ⟨p,0,none⟩)) 99;have a:=b.alloc (Obj.cells #[.pointer (some ⟨p,0,none⟩)] 99);have d:=Upd.alloc b (Obj.cells #[.pointer (some ⟨p,0,none⟩)] 99);have k:=a.str;rw[j] at k;have i:=g.1;clear j
 go_enter Tryz.func187,Tryz.ntmps187
 go_wp2_with(go_at_call 70;refine(yu a).mono ?_;rintro e l ⟨m,o,h,rfl,c,f⟩)
 exact⟨rfl,m,o,h,rfl,c,d.trans f⟩
theorem next2 {w:World}{p:Nat}{st:RS}(d:RAt w p st):(¬ st.str.head? = some 112/\(w.cell? ⟨p,1,none⟩=some (.string ⟨#[]⟩)\/∃ (c:UInt8) (r:List UInt8),((c.toNat:Int) == 112)=false/\w.cell? ⟨p,1,none⟩=some (.string ⟨(c::r).toArray⟩)))\/
  ∃ r:List UInt8,st.str=112::r/\w.cell? ⟨p,1,none⟩=some (.string ⟨(112::r).toArray⟩):=by
 have h:=d.str
 cases b:st.str with
 | nil=>rw[b] at h;exact .inl ⟨by simp,.inl h⟩
 | cons c r=>
  rw[b] at h
  by_cases a:c=112
  ·subst a;exact .inr ⟨r,rfl,h⟩
  ·refine .inl ⟨by simpa using a,.inr ⟨c,r,?_,h⟩⟩
   simp;intro e;exact a (UInt8.toNat_inj.1 (by show c.toNat=112;omega))
theorem yts {rec:Rec}{m:Nat}{b:Bool}{st:RS}{r:List UInt8}(h:st.str=112::r) :
  xu rec (m+1) b st=ye (if b=true then wS [44,32] (st.go r) else wS [60] (st.go r)) fun s=>
   match vn s.str with
   | none=>none
   | some none=>some none
   | some (some z)=>ye (wS z.1 (s.go z.2.2)) fun s=>ye (wS [32,61,32] s) fun s=>ye (rec .type s) fun z=>xu rec m true z.1:=by
 conv=>lhs;unfold xu
 rw[if_pos (by rw[h];rfl),show st.str.tail=r by rw[h];rfl]
 rfl
theorem yqi {rec:Rec}{m:Nat}{b:Bool}{st:RS}(h:¬ st.str.head? = some 112):xu rec (m+1) b st=some (some (st,b)):=by
 unfold xu;rw[if_neg h]
theorem yfg {rec:Rec}(H:yy rec){w:World}{p:Nat}{st:RS}{x:Option RS}(h:RAt w p st)(l:st.Wg)(k:Env p w)(i:xd rec st=some x) :
  Calls Tryz.prog 175 #[.pointer (some ⟨p,0,none⟩)] w fun e w'=>yib p w x e w':=by
 have j:=Upd.refl p w;unfold xd at i
 go_enter Tryz.func175,Tryz.ntmps175
 go_wp2_with fail
 refine yv0 H h l k i (fun e C y t=>?_) (fun z u d f a g=>?_)
 ·subst t;obtain⟨m,o,A,rfl,n,q⟩:=y;go_wp2;exact⟨rfl,m,o,A,rfl,n,j.trans q⟩
 replace k:=k.upd h a;replace j:=j.trans a;replace h:=d;replace l:=f;replace i:=g;clear d f a g;have G:=lh i;clear i;go_wp2
 go_loopg [2] (z.1.str.length+1) (fun gk L wr=>∃ (b:Bool) (s:RS),L=.bool b/\RAt wr p s/\s.Wg/\Env p wr/\Hid (ye (xu rec gk b s) (fun z=>if z.2=true then wS [62] z.1 else some (some z.1))=some x)/\Upd p w wr)
 case atStart=>exact⟨z.2,z.1,rfl,h,l,k,G.out,j⟩
 case round=>
  clear h l k j G;obtain⟨b,s,rfl,h,l,k,B,j⟩:=hrel
  cases gk with
  | zero=>cases B.out
  | succ gk=>
   rcases next2 h with⟨J,D⟩|⟨r,hr,K⟩
   ·have i:=B.out
    rw[yqi J,bindM_ok] at i;clear B J
    rcases D with D|⟨c,r,I,D⟩
    all_goals
     cases b with
     | true=>
      rw[if_pos rfl,<-ve (wS _ _)] at i
      go_wp2_with fail
      refine zt 62 h l i fun u d f a g=>?_;replace k:=k.upd h a;replace j:=j.trans a;replace h:=d;replace l:=f;replace i:=g;clear d f a g;obtain rfl:=Option.some.inj i;go_wp2;go_end0;exact⟨⟨rfl,h,j⟩,l⟩
     | false=>
      rw[if_neg (by simp)] at i;obtain rfl:=Option.some.inj i;go_wp2;go_end0;exact⟨⟨rfl,h,j⟩,l⟩
   ·have i:=B.out
    rw[yts hr,yp] at i;have F:=lh hr;clear B hr
    go_wp2_with fail
    refine(yh h l.wf F).mono ?_;rintro e u ⟨rfl,d,a⟩;have f:(s.go r).Wg:=l.go (by rw[F.out];simp);have g:=i;clear K;replace k:=k.upd h a;replace j:=j.trans a;replace h:=d;replace l:=f;replace i:=g;clear d f a g
    cases b with
    | true=>
     rw[if_pos rfl] at i
     go_wp2_with fail
     refine zv [44,32] h l i fun u d f a g=>?_;replace k:=k.upd h a;replace j:=j.trans a;replace h:=d;replace l:=f;replace i:=g;clear d f a g;have v:(match vn ((s.go r).wr [44,32]).str with|none=>none|some none=>some none|some (some z)=>ye (wS z.1 (((s.go r).wr [44,32]).go z.2.2)) fun s=>ye (wS [32,61,32] s) fun s=>ye (rec .type s) fun z=>ye (xu rec gk true z.1) fun z=>if z.2=true then wS [62] z.1 else some (some z.1))=some x:=by
      rw[<-i]
      rcases vn ((s.go r).wr [44,32]).str with _|_|z
      ·rfl
      ·rfl
      ·simp only[yp]
     replace i:=v;clear v
     go_wp2_with fail
     refine ykk h l i (fun e C y t=>?_) (fun z u d f a g E=>?_)
     ·subst t;obtain⟨m,o,A,rfl,n,q⟩:=y;go_wp2;exact⟨rfl,m,o,A,rfl,n,j.trans q⟩
     replace k:=k.upd h a;replace j:=j.trans a;replace h:=d;replace l:=f;replace i:=g;clear d f a g
     go_wp2_with fail
     refine zv z.1 h l i fun u d f a g=>?_;replace k:=k.upd h a;replace j:=j.trans a;replace h:=d;replace l:=f;replace i:=g;clear d f a g
     go_wp2_with fail
     refine zv [32,61,32] h l i fun u d f a g=>?_;replace k:=k.upd h a;replace j:=j.trans a;replace h:=d;replace l:=f;replace i:=g;clear d f a g
     go_wp2_with fail
     refine jt H h l k i (fun e C y t=>?_) (fun z u d f a g=>?_)
     ·subst t;obtain⟨m,o,A,rfl,n,q⟩:=y;go_wp2;exact⟨rfl,m,o,A,rfl,n,j.trans q⟩
     replace k:=k.upd h a;replace j:=j.trans a;replace h:=d;replace l:=f;replace i:=g;clear d f a g;go_wp2
     go_roundg gk
     case measure=>omega
     case rel=>exact⟨true,z.1,rfl,h,l,k,i,j⟩
    | false=>
     rw[if_neg (by simp)] at i
     go_wp2_with fail
     refine zt 60 h l i fun u d f a g=>?_;replace k:=k.upd h a;replace j:=j.trans a;replace h:=d;replace l:=f;replace i:=g;clear d f a g;have v:(match vn ((s.go r).wr [60]).str with|none=>none|some none=>some none|some (some z)=>ye (wS z.1 (((s.go r).wr [60]).go z.2.2)) fun s=>ye (wS [32,61,32] s) fun s=>ye (rec .type s) fun z=>ye (xu rec gk true z.1) fun z=>if z.2=true then wS [62] z.1 else some (some z.1))=some x:=by
      rw[<-i]
      rcases vn ((s.go r).wr [60]).str with _|_|z
      ·rfl
      ·rfl
      ·simp only[yp]
     replace i:=v;clear v
     go_wp2_with fail
     refine ykk h l i (fun e C y t=>?_) (fun z u d f a g E=>?_)
     ·subst t;obtain⟨m,o,A,rfl,n,q⟩:=y;go_wp2;exact⟨rfl,m,o,A,rfl,n,j.trans q⟩
     replace k:=k.upd h a;replace j:=j.trans a;replace h:=d;replace l:=f;replace i:=g;clear d f a g
     go_wp2_with fail
     refine zv z.1 h l i fun u d f a g=>?_;replace k:=k.upd h a;replace j:=j.trans a;replace h:=d;replace l:=f;replace i:=g;clear d f a g
     go_wp2_with fail
     refine zv [32,61,32] h l i fun u d f a g=>?_;replace k:=k.upd h a;replace j:=j.trans a;replace h:=d;replace l:=f;replace i:=g;clear d f a g
     go_wp2_with fail
     refine jt H h l k i (fun e C y t=>?_) (fun z u d f a g=>?_)
     ·subst t;obtain⟨m,o,A,rfl,n,q⟩:=y;go_wp2;exact⟨rfl,m,o,A,rfl,n,j.trans q⟩
     replace k:=k.upd h a;replace j:=j.trans a;replace h:=d;replace l:=f;replace i:=g;clear d f a g;go_wp2
     go_roundg gk
     case measure=>omega
     case rel=>exact⟨true,z.1,rfl,h,l,k,i,j⟩
theorem yvu {rec:Rec}(H:yy rec){w:World}{p:Nat}{st:RS}{x:Option RS}(g:RAt w p st)(n:st.Wg)(l:Env p w)(i:ylz rec st=some x) :
  Calls Tryz.prog 152 #[.pointer (some ⟨p,0,none⟩)] w fun e w'=>yib p w x e w':=by
 have j:=Upd.refl p w;unfold ylz at i
 go_enter Tryz.func152,Tryz.ntmps152
 go_wp2_with fail
 refine zv [100,121,110,32] g n i fun E b d a f=>?_;replace l:=l.upd g a;replace j:=j.trans a;replace g:=b;replace n:=d;replace i:=f;clear b d a f
 go_wp2_with fail
 refine ji (fun z h=>yht g n h) i (fun e G y v=>?_) (fun A E u b d a f=>?_)
 ·subst v;obtain⟨m,o,B,rfl,q,t⟩:=y;go_wp2;exact⟨rfl,m,o,B,rfl,q,j.trans t⟩
 replace l:=l.upd g a;replace j:=j.trans a;replace g:=b;replace n:=d;replace i:=f;clear b d a f;clear u;have I:=lh i;clear i;go_wp2
 go_loopg [2] (A.str.length+1) (fun gk J wr=>∃ (k:Nat) (s:RS),J=.bool (decide (k=0))/\RAt wr p s/\s.Wg/\Env p wr/\Hid (ye (xy (xd rec) [32,43,32] gk k s) (fun z=>yb0 69 z.1)=some x)/\Upd p w wr)
 case atStart=>exact⟨0,A,rfl,g,n,l,I.out,j⟩
 case round=>
  clear g n l j I;obtain⟨k,s,rfl,g,n,l,C,j⟩:=hrel
  cases gk with
  | zero=>cases C.out
  | succ gk=>
   rcases ylf g with⟨D,F⟩|⟨D,c,r,F,L⟩
   ·have i:=C.out
    rw[ycm D,bindM_ok,<-ve (yb0 _ _)] at i;clear C D
    rcases F with F|⟨r,F⟩
    all_goals
     go_wp2_with fail
     refine ji (fun z h=>yb9 (c:=69) g n yer h) i (fun e G y v=>?_) (fun A E u b d a f=>?_)
     ·subst v;obtain⟨m,o,B,rfl,q,t⟩:=y;go_wp2;exact⟨rfl,m,o,B,rfl,q,j.trans t⟩
     replace l:=l.upd g a;replace j:=j.trans a;replace g:=b;replace n:=d;replace i:=f;clear b d a f;clear u;obtain rfl:=Option.some.inj i;go_wp2;go_end0;exact⟨⟨rfl,g,j⟩,n⟩
   ·have i:=C.out
    rw[ydn D,yp] at i;clear C D
    cases k with
    | zero=>
     rw[if_pos rfl,bindM_ok,yp] at i
     go_wp2_with fail
     refine ji (fun z h=>yfg H g n l h) i (fun e G y v=>?_) (fun A E u b d a f=>?_)
     ·subst v;obtain⟨m,o,B,rfl,q,t⟩:=y;go_wp2;exact⟨rfl,m,o,B,rfl,q,j.trans t⟩
     replace l:=l.upd g a;replace j:=j.trans a;replace g:=b;replace n:=d;replace i:=f;clear b d a f;clear u;go_wp2
     go_roundg gk
     case measure=>omega
     case rel=>exact⟨1,A,rfl,g,n,l,i,j⟩
    | succ k=>
     rw[if_neg (by omega)] at i;have K:decide (k+1=0)=false:=by simp
     go_wp2_with fail
     refine zv [32,43,32] g n i fun E b d a f=>?_;replace l:=l.upd g a;replace j:=j.trans a;replace g:=b;replace n:=d;replace i:=f;clear b d a f;rw[yp] at i
     go_wp2_with fail
     refine ji (fun z h=>yfg H g n l h) i (fun e G y v=>?_) (fun A E u b d a f=>?_)
     ·subst v;obtain⟨m,o,B,rfl,q,t⟩:=y;go_wp2;exact⟨rfl,m,o,B,rfl,q,j.trans t⟩
     replace l:=l.upd g a;replace j:=j.trans a;replace g:=b;replace n:=d;replace i:=f;clear b d a f;clear u;go_wp2
     go_roundg gk
     case measure=>omega
     case rel=>exact⟨k+2,A,rfl,g,n,l,i,j⟩
theorem yuu {rec:Rec}(H:yy rec)(hO:z7 rec){w:World}{p:Nat}{st:RS}{x:Option (RS×Bool)}(g:RAt w p st)(i:st.Wg)(h:Env p w)(a:yg1 rec st=some x) :
  Calls Tryz.prog 187 #[.pointer (some ⟨p,0,none⟩)] w fun e w'=>jj .psg p w x e w':=by
 unfold yg1 at a
 cases f:st.str with
 | nil=>rw[f] at a;obtain rfl:=Option.some.inj a;exact psg_0 g f
 | cons c r=>
  rw[f] at a;simp only at a
  by_cases d:c=73
  ·subst d;rw[if_pos rfl] at a;exact psg_I H hO g i h f a
  rw[if_neg d] at a
  by_cases b:c=66
  ·subst b;rw[if_pos rfl] at a;exact psg_B H hO g i h f a
  rw[if_neg b] at a;exact psg_o H g i h f d b a
theorem yw7 {rec:Rec}(H:yy rec)(hO:z7 rec){w:World}{p:Nat}{st:RS}{r:List UInt8}{x:Option (RS×Bool)}(g:RAt w p st)(l:st.Wg)(n:Env p w)(G:st.str=84::r)
  (i:(ye (wS [40] (st.go r)) fun s=>ye (ycu rec s) fun z=>ye (if z.2=1 then wS [44] z.1 else some (some z.1)) fun s=>ye (wS [41] s) fun s=>asU (yb0 69 s))=some x):Calls Tryz.prog 126 #[.pointer (some ⟨p,0,none⟩)] w fun e w'=>jj .type p w x e w':=by
 have j:=Upd.refl p w;have D:=g.str;rw[G] at D;have J:=lh G;clear G
 go_enter Tryz.func126,Tryz.ntmps126
 go_wp2_with fail
 refine(yh g l.wf J).mono ?_;rintro e v ⟨rfl,b,a⟩;have d:(st.go r).Wg:=l.go (by rw[J.out];simp);have f:=i;clear D;replace n:=n.upd g a;replace j:=j.trans a;replace g:=b;replace l:=d;replace i:=f;clear b d a f
 go_wp2_with fail
 refine zt 40 g l i fun v b d a f=>?_;replace n:=n.upd g a;replace j:=j.trans a;replace g:=b;replace l:=d;replace i:=f;clear b d a f;generalize (st.go r).wr [40]=I at *;unfold ycu at i;have M:=lh i;have N:(I.str.length:Int)<=4294967296:=by have:=l.o0;have:=l.o1;have:=l.o2;omega
 clear i J;go_wp2
 go_loopg [3] (I.str.length+1) (fun gk U wr=>∃ (k:Nat) (s:RS),U=.int .i64 k/\Hid (k+gk=I.str.length+1)/\RAt wr p s/\s.Wg/\Env p wr/\Hid (ye (xy (fun s=>ye (rec .type s) fun z=>some (some z.1)) [44,32] gk k s) (fun z=>ye (if z.2=1 then wS [44] z.1 else some (some z.1)) fun s=>ye (wS [41] s) fun s=>asU (yb0 69 s))=some x)/\Upd p w wr)
 case atStart=>exact⟨0,I,rfl,by show 0+_=_;omega,g,l,n,M.out,j⟩
 case round=>
  clear g l n j M;obtain⟨k,s,rfl,Q,g,l,n,E,j⟩:=hrel;have R:=Q.out;have S:(k:Int)<=4294967297:=by omega
  cases gk with
  | zero=>cases E.out
  | succ gk=>
   rcases ylf g with⟨F,A⟩|⟨F,c,r,A,G⟩
   ·have i:=E.out
    rw[ycm F,bindM_ok] at i;clear E F;simp only at i
    by_cases D:k=1
    ·subst D
     rw[if_pos rfl] at i
     rcases A with A|⟨r,A⟩
     all_goals
      go_wp2_with fail
      refine zt 44 g l i fun v b d a f=>?_;replace n:=n.upd g a;replace j:=j.trans a;replace g:=b;replace l:=d;replace i:=f;clear b d a f
      go_wp2_with fail
      refine zt 41 g l i fun v b d a f=>?_;replace n:=n.upd g a;replace j:=j.trans a;replace g:=b;replace l:=d;replace i:=f;clear b d a f
      go_wp2_with fail
      refine ji (fun z h=>yb9 (c:=69) g l yer h) i (fun e L y u=>?_) (fun T v B b d a f=>?_)
      ·subst u;obtain⟨m,o,C,rfl,q,t⟩:=y;go_wp2;exact⟨rfl,m,o,C,rfl,q,j.trans t⟩
      replace n:=n.upd g a;replace j:=j.trans a;replace g:=b;replace l:=d;replace i:=f;clear b d a f;clear B;obtain rfl:=Option.some.inj i;go_wp2;go_end0;exact⟨⟨rfl,g,j⟩,l⟩
    ·rw[if_neg D,bindM_ok] at i
     have P:((k:Int) == 1)=false:=by simp;omega
     clear D
     rcases A with A|⟨r,A⟩
     all_goals
      go_wp2_with fail
      refine zt 41 g l i fun v b d a f=>?_;replace n:=n.upd g a;replace j:=j.trans a;replace g:=b;replace l:=d;replace i:=f;clear b d a f
      go_wp2_with fail
      refine ji (fun z h=>yb9 (c:=69) g l yer h) i (fun e L y u=>?_) (fun T v B b d a f=>?_)
      ·subst u;obtain⟨m,o,C,rfl,q,t⟩:=y;go_wp2;exact⟨rfl,m,o,C,rfl,q,j.trans t⟩
      replace n:=n.upd g a;replace j:=j.trans a;replace g:=b;replace l:=d;replace i:=f;clear b d a f;clear B;obtain rfl:=Option.some.inj i;go_wp2;go_end0;exact⟨⟨rfl,g,j⟩,l⟩
   ·have i:=E.out
    rw[ydn F,yp] at i;clear E F
    by_cases K:k=0
    ·subst K
     rw[if_pos rfl,bindM_ok,yp,yp] at i
     go_wp2_with fail
     refine jt H g l n i (fun e L y u=>?_) (fun z v b d a f=>?_)
     ·subst u;obtain⟨m,o,C,rfl,q,t⟩:=y;go_wp2;exact⟨rfl,m,o,C,rfl,q,j.trans t⟩
     replace n:=n.upd g a;replace j:=j.trans a;replace g:=b;replace l:=d;replace i:=f;clear b d a f;rw[bindM_ok] at i;go_wp2
     go_roundg gk
     case measure=>omega
     case rel=>exact⟨1,z.1,rfl,by show 1+gk=_;omega,g,l,n,i,j⟩
    ·rw[if_neg K] at i
     have O:0 < (k:Int):=by omega
     clear K
     go_wp2_with fail
     refine zv [44,32] g l i fun v b d a f=>?_;replace n:=n.upd g a;replace j:=j.trans a;replace g:=b;replace l:=d;replace i:=f;clear b d a f;rw[yp,yp] at i
     go_wp2_with fail
     refine jt H g l n i (fun e L y u=>?_) (fun z v b d a f=>?_)
     ·subst u;obtain⟨m,o,C,rfl,q,t⟩:=y;go_wp2;exact⟨rfl,m,o,C,rfl,q,j.trans t⟩
     replace n:=n.upd g a;replace j:=j.trans a;replace g:=b;replace l:=d;replace i:=f;clear b d a f;rw[bindM_ok] at i;go_wp2
     go_roundg gk
     case measure=>omega
     case rel=>exact⟨k+1,z.1,by go_num,by show k+1+gk=_;omega,g,l,n,i,j⟩
theorem yw9 {rec:Rec}(H:yy rec)(hO:z7 rec){w:World}{p:Nat}{st:RS}{r:List UInt8}{x:Option (RS×Bool)}(i:RAt w p st)(k:st.Wg)(l:Env p w)(F:st.str=82::r)
  (g:yih rec false (st.go r)=some x):Calls Tryz.prog 126 #[.pointer (some ⟨p,0,none⟩)] w fun e w'=>jj .type p w x e w':=by
 have j:=Upd.refl p w;have t:=i.str;rw[F] at t;have S:=lh F;clear F
 go_enter Tryz.func126,Tryz.ntmps126
 go_wp2_with fail
 refine(yh i k.wf S).mono ?_;rintro e D ⟨rfl,b,a⟩;have d:(st.go r).Wg:=k.go (by rw[S.out];simp);have f:=g;clear t;replace l:=l.upd i a;replace j:=j.trans a;replace i:=b;replace k:=d;replace g:=f;clear b d a f;unfold yih at g;simp only[Bool.false_eq_true,if_false,if_true,bindM_ok] at g
 go_wp2_with fail
 refine zt 38 i k g fun D b d a f=>?_;replace l:=l.upd i a;replace j:=j.trans a;replace i:=b;replace k:=d;replace g:=f;clear b d a f;generalize (st.go r).wr [38]=J at *;obtain⟨U,q⟩:∃ u,decide ((J).str.head? = some 76)=u:=⟨_,rfl⟩
 go_upto_region 40 with fail
 go_cut [114] (fun W G=>W=.bool U/\D=G)
 case first=>
  rcases yi7 i (c0:=76) (n:=76) rfl with⟨t,F⟩|⟨c,r,t,F⟩
  all_goals
   rw[q] at t;have V:=lh t;clear t g q;go_wp2
   all_goals (go_meet;exact⟨by rw[V.out]<;>rfl,rfl⟩)
 case rest=>
 obtain⟨rfl,rfl⟩:=hcut
 go_upto_if 114 with fail
 go_cut [106] (fun _ G=>∃ s,RAt G p s/\s.Wg/\Env p G/\Upd p w G/\Hid ((rec .type s)=some x))
 case first=>
  cases U with
  | true=>
   obtain⟨I,B⟩:=yat (of_decide_eq_true q);rw[if_pos (of_decide_eq_true q),show J.str.tail=I by rw[B];rfl] at g;have R:=lh B;clear B q
   go_wp2_with fail
   refine(yh i k.wf R).mono ?_;rintro e D ⟨rfl,b,a⟩;have d:(J.go I).Wg:=k.go (by rw[R.out];simp);have f:=g;replace l:=l.upd i a;replace j:=j.trans a;replace i:=b;replace k:=d;replace g:=f;clear b d a f
   go_wp2_with fail
   refine yd9 i k ?_ ?_
   ·intro e Y E hb
    rw[show b62 I=none from hb] at g;obtain rfl:=(Option.some.inj g);obtain⟨m,o,Q,rfl,M,N⟩:=E;go_wp2;exact⟨rfl,m,o,Q,rfl,M,j.trans N⟩
   ·intro v X Y hb b d a
    rw[show b62 I=some (v,X) from hb] at g;rw[RS.go_go] at b d;simp only at g;have f:=g;clear hb;replace l:=l.upd i a;replace j:=j.trans a;replace i:=b;replace k:=d;replace g:=f;clear b d a f
    by_cases K:v < 0
    ·rw[if_pos K] at g;cases g
    rw[if_neg K] at g
    by_cases L:v=0
    ·subst L
     rw[if_pos rfl,bindM_ok] at g;go_wp2
     go_meet
     exact⟨_,i,k,l,j,g⟩
    ·rw[if_neg L,yp] at g
     have h3:0 < v:=by omega
     clear K L
     go_wp2_with fail
     refine ji (fun z h=>ybr i k h) g (fun e Z E C=>?_) (fun J D O b d a f=>?_)
     ·subst C;obtain⟨m,o,P,rfl,y,A⟩:=E;go_wp2;exact⟨rfl,m,o,P,rfl,y,j.trans A⟩
     replace l:=l.upd i a;replace j:=j.trans a;replace i:=b;replace k:=d;replace g:=f;clear b d a f;clear O
     go_wp2_with fail
     refine zt 32 i k g fun D b d a f=>?_;replace l:=l.upd i a;replace j:=j.trans a;replace i:=b;replace k:=d;replace g:=f;clear b d a f;go_wp2
     go_meet
     exact⟨_,i,k,l,j,g⟩
  | false=>
   rw[if_neg (of_decide_eq_false q),bindM_ok] at g;go_wp2
   go_meet
   exact⟨_,i,k,l,j,g⟩
 case rest=>
 clear i k l j g q;obtain⟨s2,i,k,l,j,T⟩:=hcut;have g:=T.out;clear T;replace g:=(xk _).trans g
 go_wp2_with fail
 refine jt H i k l g (fun e Z E C=>?_) (fun z D b d a f=>?_)
 ·subst C;obtain⟨m,o,P,rfl,y,A⟩:=E;go_wp2;exact⟨rfl,m,o,P,rfl,y,j.trans A⟩
 replace l:=l.upd i a;replace j:=j.trans a;replace i:=b;replace k:=d;replace g:=f;clear b d a f;obtain rfl:=Option.some.inj g;go_wp2;go_end0;exact⟨⟨rfl,i,j⟩,k⟩
theorem yxa {rec:Rec}(H:yy rec)(hO:z7 rec){w:World}{p:Nat}{st:RS}{r:List UInt8}{x:Option (RS×Bool)}(i:RAt w p st)(k:st.Wg)(l:Env p w)(F:st.str=81::r)
  (g:yih rec true (st.go r)=some x):Calls Tryz.prog 126 #[.pointer (some ⟨p,0,none⟩)] w fun e w'=>jj .type p w x e w':=by
 have j:=Upd.refl p w;have t:=i.str;rw[F] at t;have S:=lh F;clear F
 go_enter Tryz.func126,Tryz.ntmps126
 go_wp2_with fail
 refine(yh i k.wf S).mono ?_;rintro e D ⟨rfl,b,a⟩;have d:(st.go r).Wg:=k.go (by rw[S.out];simp);have f:=g;clear t;replace l:=l.upd i a;replace j:=j.trans a;replace i:=b;replace k:=d;replace g:=f;clear b d a f;unfold yih at g;simp only[Bool.false_eq_true,if_false,if_true,bindM_ok] at g
 go_wp2_with fail
 refine zt 38 i k g fun D b d a f=>?_;replace l:=l.upd i a;replace j:=j.trans a;replace i:=b;replace k:=d;replace g:=f;clear b d a f;generalize (st.go r).wr [38]=J at *;obtain⟨U,q⟩:∃ u,decide ((J).str.head? = some 76)=u:=⟨_,rfl⟩
 go_upto_region 40 with fail
 go_cut [114] (fun W G=>W=.bool U/\D=G)
 case first=>
  rcases yi7 i (c0:=76) (n:=76) rfl with⟨t,F⟩|⟨c,r,t,F⟩
  all_goals
   rw[q] at t;have V:=lh t;clear t g q;go_wp2
   all_goals (go_meet;exact⟨by rw[V.out]<;>rfl,rfl⟩)
 case rest=>
 obtain⟨rfl,rfl⟩:=hcut
 go_upto_if 114 with fail
 go_cut [106] (fun _ G=>∃ s,RAt G p s/\s.Wg/\Env p G/\Upd p w G/\Hid ((ye (wS [109,117,116,32] s) fun s=>rec .type s)=some x))
 case first=>
  cases U with
  | true=>
   obtain⟨I,B⟩:=yat (of_decide_eq_true q);rw[if_pos (of_decide_eq_true q),show J.str.tail=I by rw[B];rfl] at g;have R:=lh B;clear B q
   go_wp2_with fail
   refine(yh i k.wf R).mono ?_;rintro e D ⟨rfl,b,a⟩;have d:(J.go I).Wg:=k.go (by rw[R.out];simp);have f:=g;replace l:=l.upd i a;replace j:=j.trans a;replace i:=b;replace k:=d;replace g:=f;clear b d a f
   go_wp2_with fail
   refine yd9 i k ?_ ?_
   ·intro e Y E hb
    rw[show b62 I=none from hb] at g;obtain rfl:=(Option.some.inj g);obtain⟨m,o,Q,rfl,M,N⟩:=E;go_wp2;exact⟨rfl,m,o,Q,rfl,M,j.trans N⟩
   ·intro v X Y hb b d a
    rw[show b62 I=some (v,X) from hb] at g;rw[RS.go_go] at b d;simp only at g;have f:=g;clear hb;replace l:=l.upd i a;replace j:=j.trans a;replace i:=b;replace k:=d;replace g:=f;clear b d a f
    by_cases K:v < 0
    ·rw[if_pos K] at g;cases g
    rw[if_neg K] at g
    by_cases L:v=0
    ·subst L
     rw[if_pos rfl,bindM_ok] at g;go_wp2
     go_meet
     exact⟨_,i,k,l,j,g⟩
    ·rw[if_neg L,yp] at g
     have h3:0 < v:=by omega
     clear K L
     go_wp2_with fail
     refine ji (fun z h=>ybr i k h) g (fun e Z E C=>?_) (fun J D O b d a f=>?_)
     ·subst C;obtain⟨m,o,P,rfl,y,A⟩:=E;go_wp2;exact⟨rfl,m,o,P,rfl,y,j.trans A⟩
     replace l:=l.upd i a;replace j:=j.trans a;replace i:=b;replace k:=d;replace g:=f;clear b d a f;clear O
     go_wp2_with fail
     refine zt 32 i k g fun D b d a f=>?_;replace l:=l.upd i a;replace j:=j.trans a;replace i:=b;replace k:=d;replace g:=f;clear b d a f;go_wp2
     go_meet
     exact⟨_,i,k,l,j,g⟩
  | false=>
   rw[if_neg (of_decide_eq_false q),bindM_ok] at g;go_wp2
   go_meet
   exact⟨_,i,k,l,j,g⟩
 case rest=>
 clear i k l j g q;obtain⟨s2,i,k,l,j,T⟩:=hcut;have g:=T.out;clear T
 go_wp2_with fail
 refine zv [109,117,116,32] i k g fun D b d a f=>?_;replace l:=l.upd i a;replace j:=j.trans a;replace i:=b;replace k:=d;replace g:=f;clear b d a f;replace g:=(xk _).trans g
 go_wp2_with fail
 refine jt H i k l g (fun e Z E C=>?_) (fun z D b d a f=>?_)
 ·subst C;obtain⟨m,o,P,rfl,y,A⟩:=E;go_wp2;exact⟨rfl,m,o,P,rfl,y,j.trans A⟩
 replace l:=l.upd i a;replace j:=j.trans a;replace i:=b;replace k:=d;replace g:=f;clear b d a f;obtain rfl:=Option.some.inj g;go_wp2;go_end0;exact⟨⟨rfl,i,j⟩,k⟩
theorem yxe {rec:Rec}(H:yy rec)(hO:z7 rec){w:World}{p:Nat}{st:RS}{r:List UInt8}{x:Option (RS×Bool)}(i:RAt w p st)(l:st.Wg)(n:Env p w)(X:st.str=68::r)
  (j:(ye (ylz rec (st.go r)) fun s=>asU (yc4 { s with life:=st.life }))=some x):Calls Tryz.prog 126 #[.pointer (some ⟨p,0,none⟩)] w fun e w'=>jj .type p w x e w':=by
 have k:=Upd.refl p w;have Z:=i.str;rw[X] at Z;have Y:=lh X;clear X
 go_enter Tryz.func126,Tryz.ntmps126
 go_wp2_with fail
 refine(yh i l.wf Y).mono ?_;rintro e I ⟨rfl,d,b⟩;have f:(st.go r).Wg:=l.go (by rw[Y.out];simp);have g:=j;clear Z;replace n:=n.upd i b;replace k:=k.trans b;replace i:=d;replace l:=f;replace j:=g;clear d f b g;have ae:_=some (Value.int .i64 st.life):=i.life;have V:=l.l0;have W:=l.l1
 go_wp2_with fail
 refine ji (fun z h=>yvu H i l n h) j (fun e wF J C=>?_) (fun q I B d f b g=>?_)
 ·subst C;obtain⟨m,o,Q,rfl,u,A⟩:=J;go_wp2;exact⟨rfl,m,o,Q,rfl,u,k.trans A⟩
 replace n:=n.upd i b;replace k:=k.trans b;replace i:=d;replace l:=f;replace j:=g;clear d f b g;clear B;have ab:=i.life;have f6:=i.free 6;have d:=i.set_life st.life;have b:=(Upd.refl p _).set 6 (.int .i64 st.life) (by omega) (a:=I);have f:RS.Wg { q with life:=st.life }:=⟨l.o0,l.o1,l.o2,V,W⟩;replace n:=n.upd i b;replace k:=k.trans b;have M:=i.str;replace i:=d;replace l:=f;clear d f b;unfold yc4 at j
 by_cases G:q.str.head? = some 76
 ·obtain⟨N,E⟩:=yat G
  rw[if_pos (show(RS.str { q with life:=st.life }).head? = some 76 from G),show(RS.str { q with life:=st.life }).tail=N by show q.str.tail=N;rw[E];rfl] at j;rw[E] at M;have O:Hid ((RS.str { q with life:=st.life })=76::N):=E;clear E G
  go_wp2_with fail
  refine(yh i l.wf O).mono ?_;rintro e I ⟨rfl,d,b⟩;have f:(RS.go { q with life:=st.life } N).Wg:=l.go (by rw[O.out];simp);have g:=j;replace n:=n.upd i b;replace k:=k.trans b;replace i:=d;replace l:=f;replace j:=g;clear d f b g
  go_wp2_with fail
  refine yd9 i l ?_ ?_
  ·intro e w2 J hb
   rw[show b62 N=none from hb] at j;obtain rfl:=(Option.some.inj j);obtain⟨m,o,D,rfl,T,U⟩:=J;go_wp2;exact⟨rfl,m,o,D,rfl,T,k.trans U⟩
  ·intro v r3 w2 hb d f b
   rw[show b62 N=some (v,r3) from hb] at j;rw[RS.go_go] at d f;simp only at j;have g:=j;clear hb;replace n:=n.upd i b;replace k:=k.trans b;replace i:=d;replace l:=f;replace j:=g;clear d f b g
   by_cases R:v < 0
   ·rw[if_pos R] at j;cases j
   rw[if_neg R] at j
   by_cases S:v=0
   ·subst S
    rw[if_pos rfl] at j;go_wp2;go_end0;obtain rfl:=Option.some.inj j;exact⟨⟨rfl,i,k⟩,l⟩
   ·rw[if_neg S,show ∀ y:Option (Option RS),asU y=ye y fun s=>some (some (s,false)) from fun _=>rfl,yp] at j
    have h3:0 < v:=by omega
    have P:=i.last;rw[show(RS.go { q with life:=st.life } r3).last=q.last from rfl] at P;clear R S
    by_cases t:q.last=32
    ·rw[if_pos t,bindM_ok,yp] at j
     rw[t] at P;clear t
     go_wp2_with fail
     refine zv [43,32] i l j fun I d f b g=>?_;replace n:=n.upd i b;replace k:=k.trans b;replace i:=d;replace l:=f;replace j:=g;clear d f b g
     go_wp2_with fail
     refine ji (fun z h=>ybr i l h) j (fun e wF J C=>?_) (fun q I B d f b g=>?_)
     ·subst C;obtain⟨m,o,Q,rfl,u,A⟩:=J;go_wp2;exact⟨rfl,m,o,Q,rfl,u,k.trans A⟩
     replace n:=n.upd i b;replace k:=k.trans b;replace i:=d;replace l:=f;replace j:=g;clear d f b g;clear B;obtain rfl:=Option.some.inj j;go_wp2;go_end0;exact⟨⟨rfl,i,k⟩,l⟩
    ·rw[if_neg t] at j
     have aa:(q.last != 32)=true:=by simp[t]
     clear t
     go_wp2_with fail
     refine zt 32 i l j fun I d f b g=>?_;replace n:=n.upd i b;replace k:=k.trans b;replace i:=d;replace l:=f;replace j:=g;clear d f b g;rw[yp] at j
     go_wp2_with fail
     refine zv [43,32] i l j fun I d f b g=>?_;replace n:=n.upd i b;replace k:=k.trans b;replace i:=d;replace l:=f;replace j:=g;clear d f b g
     go_wp2_with fail
     refine ji (fun z h=>ybr i l h) j (fun e wF J C=>?_) (fun q I B d f b g=>?_)
     ·subst C;obtain⟨m,o,Q,rfl,u,A⟩:=J;go_wp2;exact⟨rfl,m,o,Q,rfl,u,k.trans A⟩
     replace n:=n.upd i b;replace k:=k.trans b;replace i:=d;replace l:=f;replace j:=g;clear d f b g;clear B;obtain rfl:=Option.some.inj j;go_wp2;go_end0;exact⟨⟨rfl,i,k⟩,l⟩
 ·rw[if_neg (show ¬ (RS.str { q with life:=st.life }).head? = some 76 from G)] at j
  obtain rfl:=Option.some.inj j
  cases F:q.str with
  | nil=>
   rw[F] at M;clear F G
   go_wp2_with(go_at_call 70;refine(yu i).mono ?_;rintro e w9 ⟨m,o,D,rfl,K,L⟩)
   exact⟨rfl,m,o,D,rfl,K,k.trans L⟩
  | cons c N=>
   rw[F] at M G;have h5:((c.toNat:Int) != 76)=true:=by simp;intro h;exact G (by rw[show c=76 from UInt8.toNat_inj.1 (by show c.toNat=76;omega)];rfl)
   clear F G
   go_wp2_with(go_at_call 70;refine(yu i).mono ?_;rintro e w9 ⟨m,o,D,rfl,K,L⟩)
   exact⟨rfl,m,o,D,rfl,K,k.trans L⟩
theorem yqz {rec:Rec}(H:yy rec)(hO:z7 rec){w:World}{p:Nat}{st:RS}{x:Option (RS×Bool)}(d:RAt w p st)(g:st.Wg)(f:Env p w)(a:gw rec st=some x) :
  Calls Tryz.prog 126 #[.pointer (some ⟨p,0,none⟩)] w fun e w'=>jj .type p w x e w':=by
 unfold gw at a
 cases b:st.str with
 | nil=>rw[b] at a;obtain rfl:=Option.some.inj a;exact yxh d b
 | cons c r=>
  rw[b] at a;simp only at a
  by_cases hb:97<=c.toNat/\c.toNat<=122
  ·rw[if_pos hb] at a;exact yw6 (rec:=rec) d g f b hb a
  rw[if_neg hb] at a
  by_cases u:c=67\/c=77\/c=88\/c=89\/c=78\/c=73
  ·rw[if_pos u] at a
   rcases u with rfl|rfl|rfl|rfl|rfl|rfl
   ·exact yui H hO d g f b a
   ·exact yug H hO d g f b a
   ·exact yue H hO d g f b a
   ·exact yud H hO d g f b a
   ·exact yuf H hO d g f b a
   ·exact yuh H hO d g f b a
  rw[if_neg u] at a
  by_cases h:c=65
  ·subst h;rw[if_pos rfl] at a;exact yxg H hO d g f b a
  rw[if_neg h] at a
  by_cases s:c=83
  ·subst s;rw[if_pos rfl] at a;exact yw8 H hO d g f b a
  rw[if_neg s] at a
  by_cases t:c=84
  ·subst t;rw[if_pos rfl] at a;exact yw7 H hO d g f b a
  rw[if_neg t] at a
  by_cases q:c=82
  ·subst q;rw[if_pos rfl] at a;exact yw9 H hO d g f b a
  rw[if_neg q] at a
  by_cases o:c=81
  ·subst o;rw[if_pos rfl] at a;exact yxa H hO d g f b a
  rw[if_neg o] at a
  by_cases m:c=80
  ·subst m;rw[if_pos rfl] at a;exact yxb H hO d g f b a
  rw[if_neg m] at a
  by_cases l:c=79
  ·subst l;rw[if_pos rfl] at a;exact yxc H hO d g f b a
  rw[if_neg l] at a
  by_cases k:c=70
  ·subst k;rw[if_pos rfl] at a;exact yxd H hO d g f b a
  rw[if_neg k] at a
  by_cases j:c=68
  ·subst j;rw[if_pos rfl] at a;exact yxe H hO d g f b a
  rw[if_neg j] at a
  by_cases i:c=66
  ·subst i;rw[if_pos rfl] at a;exact yxf H hO d g f b a
  rw[if_neg i] at a;obtain rfl:=Option.some.inj a;refine yw4 d b hb (fun n v=>?_);simp only[List.mem_cons,List.not_mem_nil,or_false] at v;simp only[not_or] at u;obtain⟨y,z,A,B,C,D⟩:=u
  rcases v with rfl|rfl|rfl|rfl|rfl|rfl|rfl|rfl|rfl|rfl|rfl|rfl|rfl|rfl|rfl|rfl<;>assumption
theorem yv5 {w:World}{p:Nat}{st:RS}(d:RAt w p st)(f:st.str=[]):Calls Tryz.prog 148 #[.pointer (some ⟨p,0,none⟩)] w fun e w'=>va p w e w':=by
 have g:=d.str;rw[f] at g;clear f
 go_enter Tryz.func148,Tryz.ntmps148
 go_step3
 go_wp2_with(go_at_call 70;refine(yu d).mono ?_;rintro e h ⟨m,o,c,rfl,a,b⟩)
 exact⟨rfl,m,o,c,rfl,a,b⟩
theorem yv4 {rec:Rec}(H:yy rec)(hO:z7 rec){w:World}{p:Nat}{st:RS}{r:List UInt8}{x:Option (RS×Bool)}(f:RAt w p st)(k:st.Wg)(j:Env p w)(g:st.str=66::r)
  (l:yal rec .const st=some x):Calls Tryz.prog 148 #[.pointer (some ⟨p,0,none⟩)] w fun e w'=>jj .const p w x e w':=by
 have i:=f.str;rw[g] at i;clear g
 go_enter Tryz.func148,Tryz.ntmps148
 go_step3
 go_wp2_with fail
 refine(yjl H hO (.inr rfl) f k j l).mono ?_;intro e n h
 rcases x with _|z
 ·obtain⟨m,o,d,rfl,a,b⟩:=h
  go_wp2;exact⟨rfl,m,o,d,rfl,a,b⟩
 ·obtain⟨⟨rfl,a,b⟩,c⟩:=h
  go_wp2;rw[Exit.noGoto_ret]
  go_end0;exact⟨⟨rfl,a,b⟩,c⟩
theorem yv1 {w:World}{p:Nat}{st:RS}{r:List UInt8}{x:Option (RS×Bool)}(f:RAt w p st)(g:st.Wg)(j:Env p w)(k:st.str=112::r)
  (i:asU (wS [95] (st.go r))=some x):Calls Tryz.prog 148 #[.pointer (some ⟨p,0,none⟩)] w fun e w'=>jj .const p w x e w':=by
 have h:=Upd.refl p w;have m:=f.str;rw[k] at m;have l:=lh k;clear k
 go_enter Tryz.func148,Tryz.ntmps148
 go_step3
 go_wp2_with fail
 refine(yh f g.wf l).mono ?_;rintro e n ⟨rfl,b,a⟩;have c:(st.go r).Wg:=g.go (by rw[l.out];simp);have d:=i;clear m;replace j:=j.upd f a;replace h:=h.trans a;replace f:=b;replace g:=c;replace i:=d;clear b c a d
 go_wp2_with fail
 refine zt 95 f g i fun n b c a d=>?_;replace j:=j.upd f a;replace h:=h.trans a;replace f:=b;replace g:=c;replace i:=d;clear b c a d;obtain rfl:=Option.some.inj i;go_wp2;rw[Exit.noGoto_ret];go_end0;exact⟨⟨rfl,f,h⟩,g⟩
theorem yd7 (c:UInt8)(r:List UInt8)(k v:Nat):j5 (c::r) k v =
  if c=95 then some (k,v,r)
  else if gu c.toNat < 0 then none
  else if v=0/\gu c.toNat=0/\r.head?≠some 95 then none
  else j5 r (k+1) ((v*16+(gu c.toNat).toNat) % 18446744073709551616):=by
 conv=>lhs;unfold j5
theorem kh (v:Nat)(D:Int)(a:0<=D):IntKind.u64.wrap (IntKind.u64.wrap ((v:Int)*16)+D)=(((v*16+D.toNat) % 18446744073709551616:Nat):Int):=by
 rw[IntKind.wrap_u64,IntKind.wrap_u64];omega
theorem yy1 {c:UInt8}(h:xt c=0):∀ n,n∈[97,115,108,120,110,105,104,116,109,121,111,106,98,99]->c≠UInt8.ofNat n:=by
 intro n a b;subst b;simp only[List.mem_cons,List.not_mem_nil,or_false] at a
 rcases a with rfl|rfl|rfl|rfl|rfl|rfl|rfl|rfl|rfl|rfl|rfl|rfl|rfl|rfl<;>exact absurd h (by decide)
theorem yyz:∀ n:Nat,n < 256->xt (UInt8.ofNat n)≠0->n∈[97,115,108,120,110,105,104,116,109,121,111,106,98,99]:=by decide +kernel
theorem yy0 {c:UInt8}(h:xt c≠0):∃ n,n∈[97,115,108,120,110,105,104,116,109,121,111,106,98,99]/\c=UInt8.ofNat n:=by
 have a:c=UInt8.ofNat c.toNat:=by simp
 rw[a] at h;exact⟨c.toNat,yyz c.toNat c.toNat_lt h,a⟩
def ctail?:Option Code->Option Code
 | some (.scope (.seq _ (.seq _ (.seq _ (.seq _ (.seq _ (.seq _ (.seq _ (.seq _ c)))))))))=>some c
 | _=>none
def yl8:Option Code->Code
 | some (.seq x _)=>x
 | _=>.skip
def yl6:Option Code->Code
 | some (.seq _ y)=>y
 | _=>.skip
theorem yez {o:Option Code}{x y:Code}{P:Program}{Q:Exit->Act->World->Prop}{K:Act->World->Prop}{a:Act}{w:World}(h:o=some (.seq x y))
  (hK:∀ a w,(yl6 o).wp P Q a w->K a w) (k:∀ K:Act->World->Prop,(∀ a w,y.wp P Q a w->K a w)->x.wp P (Exit.then K Q) a w):(yl8 o).wp P (Exit.then K Q) a w:=by
 subst h;exact k K hK
end Go.Proofs.YtfckcdbpiepchaaGreatDoor
