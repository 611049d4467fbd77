import Derived.Test.YtfckcdbpiepchaaGreatDoorNs06
namespace Go.Proofs.YtfckcdbpiepchaaGreatDoor
open Go.RowKit
set_option maxRecDepth 100000
set_option maxHeartbeats 8000000
set_option linter.all false
theorem yuy {rec:Rec}(H:yy rec)(hO:z7 rec){b:Bool}{w:World}{p:Nat}{st:RS}{u:UInt8}{r:List UInt8}{x:Option (RS×Bool)}(i:RAt w p st)(t:st.Wg)(n:Env p w)(I:st.str=78::u::r)
  (P:97<=(u.toNat:Int)) (Q:(u.toNat:Int)<=122) (l:(ye (rec (.path b) (st.go r)) fun z=>match idN z.1.str with|none=>none|some none=>some none|some (some y)=>asU (yck u y.1 y.2.1 (z.1.go y.2.2)))=some x):Calls Tryz.prog 100 #[.pointer (some ⟨p,0,none⟩),.bool b] w fun e w'=>jj (.path b) p w x e w':=by
 obtain⟨E,A,c,d⟩:=yca i b;replace n:=n.upd i A;replace i:=E;have q:=A;clear E A;have D:=i.str;unfold pw at D;rw[I] at D;have j:=c.1;have k:=d.1;unfold pw at j k;have K:=lh I;clear I;have L:decide (65<=(u.toNat:Int))=true:=by simp;omega
 have M:decide ((u.toNat:Int)<=90)=false:=by simp;omega
 go_enter Tryz.func100,Tryz.ntmps100
 go_wp2_with fail
 refine(yh i t.wf K).mono ?_;rintro e F ⟨rfl,f,a⟩;have g:(st.go (u::r)).Wg:=t.go (by rw[K.out];simp);have h:=l;clear D;replace n:=n.upd i a;replace q:=q.trans a;replace c:=c.upd a;replace j:=c.1;replace d:=d.upd a;replace k:=d.1;replace i:=f;replace t:=g;replace l:=h;clear f g a h;have D:_=some (Value.string ⟨(u::r).toArray⟩):=i.str
 go_wp2_with fail
 refine(yh i t.wf (show Hid ((st.go (u::r)).str=u::r) from rfl)).mono ?_;rintro e F ⟨rfl,f,a⟩;rw[RS.go_go] at f;have g:(st.go r).Wg:=(RS.go_go st (u::r) r)▸t.go (r:=r) (by show r.length<=(u::r).length;simp);have h:=l;clear D;replace n:=n.upd i a;replace q:=q.trans a;replace c:=c.upd a;replace j:=c.1;replace d:=d.upd a;replace k:=d.1;replace i:=f;replace t:=g;replace l:=h;clear f g a h
 go_wp2_with fail
 refine ki H i t n l (fun e O G C=>?_) (fun z F f g a h=>?_)
 ·subst C;obtain⟨m,o,J,rfl,v,B⟩:=G;go_wp2;exact⟨rfl,m,o,J,rfl,v,q.trans B⟩
 replace n:=n.upd i a;replace q:=q.trans a;replace c:=c.upd a;replace j:=c.1;replace d:=d.upd a;replace k:=d.1;replace i:=f;replace t:=g;replace l:=h;clear f g a h
 go_wp2_with fail
 refine ycp i t l (fun e O G C=>?_) (fun z F f g a h N=>?_)
 ·subst C;obtain⟨m,o,J,rfl,v,B⟩:=G;go_wp2;exact⟨rfl,m,o,J,rfl,v,q.trans B⟩
 replace n:=n.upd i a;replace q:=q.trans a;replace c:=c.upd a;replace j:=c.1;replace d:=d.upd a;replace k:=d.1;replace i:=f;replace t:=g;replace l:=h;clear f g a h;unfold yck at l;rw[if_pos (by omega)] at l;rw[show ∀ y:Option (Option RS),asU y=ye y fun s=>some (some (s,false)) from fun _=>rfl,yp] at l
 go_wp2_with fail
 refine zv [58,58] i t l fun F f g a h=>?_;replace n:=n.upd i a;replace q:=q.trans a;replace c:=c.upd a;replace j:=c.1;replace d:=d.upd a;replace k:=d.1;replace i:=f;replace t:=g;replace l:=h;clear f g a h
 go_wp2_with fail
 refine zv z.2.1 i t l fun F f g a h=>?_;replace n:=n.upd i a;replace q:=q.trans a;replace c:=c.upd a;replace j:=c.1;replace d:=d.upd a;replace k:=d.1;replace i:=f;replace t:=g;replace l:=h;clear f g a h;obtain rfl:=Option.some.inj l;go_wp2;go_end0;exact⟨⟨rfl,i,q⟩,t⟩
theorem yu0 {rec:Rec}(H:yy rec)(hO:z7 rec){b:Bool}{w:World}{p:Nat}{st:RS}{r:List UInt8}{x:Option (RS×Bool)}(k:RAt w p st)(v:st.Wg)(A:Env p w)(Y:st.str=78::67::r)
  (j:(ye (rec (.path b) (st.go r)) fun z=>match idN z.1.str with|none=>none|some none=>some none|some (some y)=>asU (yck 67 y.1 y.2.1 (z.1.go y.2.2)))=some x):Calls Tryz.prog 100 #[.pointer (some ⟨p,0,none⟩),.bool b] w fun e w'=>jj (.path b) p w x e w':=by
 obtain⟨Q,K,c,d⟩:=yca k b;replace A:=A.upd k K;replace k:=Q;have u:=K;clear Q K;have P:=k.str;unfold pw at P;rw[Y] at P;have q:=c.1;have l:=d.1;unfold pw at q l;have T:=lh Y;clear Y
 go_enter Tryz.func100,Tryz.ntmps100
 go_wp2_with fail
 refine(yh k v.wf T).mono ?_;rintro e N ⟨rfl,f,a⟩;have g:(st.go (67::r)).Wg:=v.go (by rw[T.out];simp);have i:=j;clear P;replace A:=A.upd k a;replace u:=u.trans a;replace c:=c.upd a;replace q:=c.1;replace d:=d.upd a;replace l:=d.1;replace k:=f;replace v:=g;replace j:=i;clear f g a i;have P:_=some (Value.string ⟨(67::r).toArray⟩):=k.str
 go_wp2_with fail
 refine(yh k v.wf (show Hid ((st.go (67::r)).str=67::r) from rfl)).mono ?_;rintro e N ⟨rfl,f,a⟩;rw[RS.go_go] at f;have g:(st.go r).Wg:=(RS.go_go st (67::r) r)▸v.go (r:=r) (by show r.length<=(67::r).length;simp);have i:=j;clear P;replace A:=A.upd k a;replace u:=u.trans a;replace c:=c.upd a;replace q:=c.1;replace d:=d.upd a;replace l:=d.1;replace k:=f;replace v:=g;replace j:=i;clear f g a i
 go_wp2_with fail
 refine ki H k v A j (fun e wF W M=>?_) (fun z N f g a i=>?_)
 ·subst M;obtain⟨m,o,Z,rfl,C,t⟩:=W;go_wp2;exact⟨rfl,m,o,Z,rfl,C,u.trans t⟩
 replace A:=A.upd k a;replace u:=u.trans a;replace c:=c.upd a;replace q:=c.1;replace d:=d.upd a;replace l:=d.1;replace k:=f;replace v:=g;replace j:=i;clear f g a i
 go_wp2_with fail
 refine ycp k v j (fun e wF W M=>?_) (fun z N f g a i ac=>?_)
 ·subst M;obtain⟨m,o,Z,rfl,C,t⟩:=W;go_wp2;exact⟨rfl,m,o,Z,rfl,C,u.trans t⟩
 replace A:=A.upd k a;replace u:=u.trans a;replace c:=c.upd a;replace q:=c.1;replace d:=d.upd a;replace l:=d.1;replace k:=f;replace v:=g;replace j:=i;clear f g a i;unfold yck at j;rw[if_neg (by decide)] at j;rw[show ∀ y:Option (Option RS),asU y=ye y fun s=>some (some (s,false)) from fun _=>rfl,yp] at j
 go_wp2_with fail
 refine zv [58,58,123] k v j fun N f g a i=>?_;replace A:=A.upd k a;replace u:=u.trans a;replace c:=c.upd a;replace q:=c.1;replace d:=d.upd a;replace l:=d.1;replace k:=f;replace v:=g;replace j:=i;clear f g a i;rw[if_pos trivial,yp] at j
 go_wp2_with fail
 refine zv [99,108,111,115,117,114,101] k v j fun N f g a i=>?_;replace A:=A.upd k a;replace u:=u.trans a;replace c:=c.upd a;replace q:=c.1;replace d:=d.upd a;replace l:=d.1;replace k:=f;replace v:=g;replace j:=i;clear f g a i;rw[yp] at j
 by_cases O:z.2.1=[]
 ·rw[if_pos O,bindM_ok] at j
  have X:(z.2.1.length:Int)=0:=by rw[O];rfl
  clear O
  by_cases hd:z.1 < 0
  ·rw[if_pos hd] at j;cases j
  rw[if_neg hd] at j;have L:(z.1.toNat:Int)=z.1:=by omega
  have J:=k.skip
  rcases vz j with⟨E,B⟩|⟨E,S,B⟩
  ·replace j:=B
   rw[E] at J;obtain rfl:=Option.some.inj j;go_wp2;go_end0;exact⟨⟨rfl,k,u⟩,v⟩
  ·replace j:=B
   rw[E] at J;have I:=fun w h=>yc1 z.1.toNat (by omega) w h;rw[L] at I;have R:(Lib.decDigits z.1.toNat).length<=35184372088832:=by simp only[List.length_cons,List.length_append] at S;omega
   clear B T hd l d;go_wp2
   go_region_with (first
    | (go_at_call 127;refine(I _ (A.tab _ (Below.drew (Below.refl _ _)))).mono ?_;rintro e wF ⟨rfl,G⟩;have C:=k.drew.below G;have t:=Upd.of_below k.drew.lt G;have U:=((c.upd ((Upd.refl p _).drew)).upd t).1)
    | (go_at_call 102;refine(vf (s:=35::(Lib.decDigits z.1.toNat++[125])) C (Nat.le_trans S (by omega))).mono ?_;rintro e wG ⟨⟨n,rfl⟩,D,F⟩;have V:=(((c.upd ((Upd.refl p _).drew)).upd t).upd F).1;have kl:=D.last;have f7:=D.free 7))
   all_goals go_wp2
   all_goals go_end0
   all_goals (obtain rfl:=Option.some.inj j;exact⟨⟨rfl,D.set_last 125,(((u.trans ((Upd.refl p _).drew)).trans t).trans F).set 7 _ (by omega)⟩,v.same rfl rfl rfl rfl⟩)
 ·rw[if_neg O,yp] at j
  have X:0 < z.2.1.length:=List.length_pos_iff.2 O;clear O
  go_wp2_with fail
  refine zt 58 k v j fun N f g a i=>?_;replace A:=A.upd k a;replace u:=u.trans a;replace c:=c.upd a;replace q:=c.1;replace d:=d.upd a;replace l:=d.1;replace k:=f;replace v:=g;replace j:=i;clear f g a i
  go_wp2_with fail
  refine zv z.2.1 k v j fun N f g a i=>?_;replace A:=A.upd k a;replace u:=u.trans a;replace c:=c.upd a;replace q:=c.1;replace d:=d.upd a;replace l:=d.1;replace k:=f;replace v:=g;replace j:=i;clear f g a i
  by_cases hd:z.1 < 0
  ·rw[if_pos hd] at j;cases j
  rw[if_neg hd] at j;have L:(z.1.toNat:Int)=z.1:=by omega
  have J:=k.skip
  rcases vz j with⟨E,B⟩|⟨E,S,B⟩
  ·replace j:=B
   rw[E] at J;obtain rfl:=Option.some.inj j;go_wp2;go_end0;exact⟨⟨rfl,k,u⟩,v⟩
  ·replace j:=B
   rw[E] at J;have I:=fun w h=>yc1 z.1.toNat (by omega) w h;rw[L] at I;have R:(Lib.decDigits z.1.toNat).length<=35184372088832:=by simp only[List.length_cons,List.length_append] at S;omega
   clear B T hd l d;go_wp2
   go_region_with (first
    | (go_at_call 127;refine(I _ (A.tab _ (Below.drew (Below.refl _ _)))).mono ?_;rintro e wF ⟨rfl,G⟩;have C:=k.drew.below G;have t:=Upd.of_below k.drew.lt G;have U:=((c.upd ((Upd.refl p _).drew)).upd t).1)
    | (go_at_call 102;refine(vf (s:=35::(Lib.decDigits z.1.toNat++[125])) C (Nat.le_trans S (by omega))).mono ?_;rintro e wG ⟨⟨n,rfl⟩,D,F⟩;have V:=(((c.upd ((Upd.refl p _).drew)).upd t).upd F).1;have kl:=D.last;have f7:=D.free 7))
   all_goals go_wp2
   all_goals go_end0
   all_goals (obtain rfl:=Option.some.inj j;exact⟨⟨rfl,D.set_last 125,(((u.trans ((Upd.refl p _).drew)).trans t).trans F).set 7 _ (by omega)⟩,v.same rfl rfl rfl rfl⟩)
theorem yuz {rec:Rec}(H:yy rec)(hO:z7 rec){b:Bool}{w:World}{p:Nat}{st:RS}{r:List UInt8}{x:Option (RS×Bool)}(k:RAt w p st)(v:st.Wg)(A:Env p w)(Y:st.str=78::83::r)
  (j:(ye (rec (.path b) (st.go r)) fun z=>match idN z.1.str with|none=>none|some none=>some none|some (some y)=>asU (yck 83 y.1 y.2.1 (z.1.go y.2.2)))=some x):Calls Tryz.prog 100 #[.pointer (some ⟨p,0,none⟩),.bool b] w fun e w'=>jj (.path b) p w x e w':=by
 obtain⟨Q,K,c,d⟩:=yca k b;replace A:=A.upd k K;replace k:=Q;have u:=K;clear Q K;have P:=k.str;unfold pw at P;rw[Y] at P;have q:=c.1;have l:=d.1;unfold pw at q l;have T:=lh Y;clear Y
 go_enter Tryz.func100,Tryz.ntmps100
 go_wp2_with fail
 refine(yh k v.wf T).mono ?_;rintro e N ⟨rfl,f,a⟩;have g:(st.go (83::r)).Wg:=v.go (by rw[T.out];simp);have i:=j;clear P;replace A:=A.upd k a;replace u:=u.trans a;replace c:=c.upd a;replace q:=c.1;replace d:=d.upd a;replace l:=d.1;replace k:=f;replace v:=g;replace j:=i;clear f g a i;have P:_=some (Value.string ⟨(83::r).toArray⟩):=k.str
 go_wp2_with fail
 refine(yh k v.wf (show Hid ((st.go (83::r)).str=83::r) from rfl)).mono ?_;rintro e N ⟨rfl,f,a⟩;rw[RS.go_go] at f;have g:(st.go r).Wg:=(RS.go_go st (83::r) r)▸v.go (r:=r) (by show r.length<=(83::r).length;simp);have i:=j;clear P;replace A:=A.upd k a;replace u:=u.trans a;replace c:=c.upd a;replace q:=c.1;replace d:=d.upd a;replace l:=d.1;replace k:=f;replace v:=g;replace j:=i;clear f g a i
 go_wp2_with fail
 refine ki H k v A j (fun e wF W M=>?_) (fun z N f g a i=>?_)
 ·subst M;obtain⟨m,o,Z,rfl,C,t⟩:=W;go_wp2;exact⟨rfl,m,o,Z,rfl,C,u.trans t⟩
 replace A:=A.upd k a;replace u:=u.trans a;replace c:=c.upd a;replace q:=c.1;replace d:=d.upd a;replace l:=d.1;replace k:=f;replace v:=g;replace j:=i;clear f g a i
 go_wp2_with fail
 refine ycp k v j (fun e wF W M=>?_) (fun z N f g a i ac=>?_)
 ·subst M;obtain⟨m,o,Z,rfl,C,t⟩:=W;go_wp2;exact⟨rfl,m,o,Z,rfl,C,u.trans t⟩
 replace A:=A.upd k a;replace u:=u.trans a;replace c:=c.upd a;replace q:=c.1;replace d:=d.upd a;replace l:=d.1;replace k:=f;replace v:=g;replace j:=i;clear f g a i;unfold yck at j;rw[if_neg (by decide)] at j;rw[show ∀ y:Option (Option RS),asU y=ye y fun s=>some (some (s,false)) from fun _=>rfl,yp] at j
 go_wp2_with fail
 refine zv [58,58,123] k v j fun N f g a i=>?_;replace A:=A.upd k a;replace u:=u.trans a;replace c:=c.upd a;replace q:=c.1;replace d:=d.upd a;replace l:=d.1;replace k:=f;replace v:=g;replace j:=i;clear f g a i;rw[if_pos trivial,yp] at j
 go_wp2_with fail
 refine zv [115,104,105,109] k v j fun N f g a i=>?_;replace A:=A.upd k a;replace u:=u.trans a;replace c:=c.upd a;replace q:=c.1;replace d:=d.upd a;replace l:=d.1;replace k:=f;replace v:=g;replace j:=i;clear f g a i;rw[yp] at j
 by_cases O:z.2.1=[]
 ·rw[if_pos O,bindM_ok] at j
  have X:(z.2.1.length:Int)=0:=by rw[O];rfl
  clear O
  by_cases hd:z.1 < 0
  ·rw[if_pos hd] at j;cases j
  rw[if_neg hd] at j;have L:(z.1.toNat:Int)=z.1:=by omega
  have J:=k.skip
  rcases vz j with⟨E,B⟩|⟨E,S,B⟩
  ·replace j:=B
   rw[E] at J;obtain rfl:=Option.some.inj j;go_wp2;go_end0;exact⟨⟨rfl,k,u⟩,v⟩
  ·replace j:=B
   rw[E] at J;have I:=fun w h=>yc1 z.1.toNat (by omega) w h;rw[L] at I;have R:(Lib.decDigits z.1.toNat).length<=35184372088832:=by simp only[List.length_cons,List.length_append] at S;omega
   clear B T hd l d;go_wp2
   go_region_with (first
    | (go_at_call 127;refine(I _ (A.tab _ (Below.drew (Below.refl _ _)))).mono ?_;rintro e wF ⟨rfl,G⟩;have C:=k.drew.below G;have t:=Upd.of_below k.drew.lt G;have U:=((c.upd ((Upd.refl p _).drew)).upd t).1)
    | (go_at_call 102;refine(vf (s:=35::(Lib.decDigits z.1.toNat++[125])) C (Nat.le_trans S (by omega))).mono ?_;rintro e wG ⟨⟨n,rfl⟩,D,F⟩;have V:=(((c.upd ((Upd.refl p _).drew)).upd t).upd F).1;have kl:=D.last;have f7:=D.free 7))
   all_goals go_wp2
   all_goals go_end0
   all_goals (obtain rfl:=Option.some.inj j;exact⟨⟨rfl,D.set_last 125,(((u.trans ((Upd.refl p _).drew)).trans t).trans F).set 7 _ (by omega)⟩,v.same rfl rfl rfl rfl⟩)
 ·rw[if_neg O,yp] at j
  have X:0 < z.2.1.length:=List.length_pos_iff.2 O;clear O
  go_wp2_with fail
  refine zt 58 k v j fun N f g a i=>?_;replace A:=A.upd k a;replace u:=u.trans a;replace c:=c.upd a;replace q:=c.1;replace d:=d.upd a;replace l:=d.1;replace k:=f;replace v:=g;replace j:=i;clear f g a i
  go_wp2_with fail
  refine zv z.2.1 k v j fun N f g a i=>?_;replace A:=A.upd k a;replace u:=u.trans a;replace c:=c.upd a;replace q:=c.1;replace d:=d.upd a;replace l:=d.1;replace k:=f;replace v:=g;replace j:=i;clear f g a i
  by_cases hd:z.1 < 0
  ·rw[if_pos hd] at j;cases j
  rw[if_neg hd] at j;have L:(z.1.toNat:Int)=z.1:=by omega
  have J:=k.skip
  rcases vz j with⟨E,B⟩|⟨E,S,B⟩
  ·replace j:=B
   rw[E] at J;obtain rfl:=Option.some.inj j;go_wp2;go_end0;exact⟨⟨rfl,k,u⟩,v⟩
  ·replace j:=B
   rw[E] at J;have I:=fun w h=>yc1 z.1.toNat (by omega) w h;rw[L] at I;have R:(Lib.decDigits z.1.toNat).length<=35184372088832:=by simp only[List.length_cons,List.length_append] at S;omega
   clear B T hd l d;go_wp2
   go_region_with (first
    | (go_at_call 127;refine(I _ (A.tab _ (Below.drew (Below.refl _ _)))).mono ?_;rintro e wF ⟨rfl,G⟩;have C:=k.drew.below G;have t:=Upd.of_below k.drew.lt G;have U:=((c.upd ((Upd.refl p _).drew)).upd t).1)
    | (go_at_call 102;refine(vf (s:=35::(Lib.decDigits z.1.toNat++[125])) C (Nat.le_trans S (by omega))).mono ?_;rintro e wG ⟨⟨n,rfl⟩,D,F⟩;have V:=(((c.upd ((Upd.refl p _).drew)).upd t).upd F).1;have kl:=D.last;have f7:=D.free 7))
   all_goals go_wp2
   all_goals go_end0
   all_goals (obtain rfl:=Option.some.inj j;exact⟨⟨rfl,D.set_last 125,(((u.trans ((Upd.refl p _).drew)).trans t).trans F).set 7 _ (by omega)⟩,v.same rfl rfl rfl rfl⟩)
theorem yu1 {rec:Rec}(H:yy rec)(hO:z7 rec){b:Bool}{w:World}{p:Nat}{st:RS}{r:List UInt8}{x:Option (RS×Bool)}(f:RAt w p st)(y:st.Wg)(s:Env p w)(z:st.str=78::r)
  (hr:r=[]) (A:some none=some x):Calls Tryz.prog 100 #[.pointer (some ⟨p,0,none⟩),.bool b] w fun e w'=>jj (.path b) p w x e w':=by
 obtain⟨j,i,c,d⟩:=yca f b;replace s:=s.upd f i;replace f:=j;have u:=i;clear j i;have q:=f.str;unfold pw at q;rw[z] at q;have g:=c.1;have h:=d.1;unfold pw at g h;have C:=lh z;clear z;obtain rfl:=Option.some.inj A;subst hr
 go_enter Tryz.func100,Tryz.ntmps100
 go_wp2_with fail
 refine(yh f y.wf C).mono ?_;rintro e D ⟨rfl,k,a⟩;have l:(st.go []).Wg:=y.go (by rw[C.out];simp);have n:=A;clear q;replace s:=s.upd f a;replace u:=u.trans a;replace c:=c.upd a;replace g:=c.1;replace d:=d.upd a;replace h:=d.1;replace f:=k;replace y:=l;replace A:=n;clear k l a n;have q:_=some (Value.string ⟨#[]⟩):=f.str
 go_wp2_with(go_at_call 70;refine(yu f).mono ?_;rintro e E ⟨m,o,B,rfl,t,v⟩)
 exact⟨rfl,m,o,B,rfl,t,u.trans v⟩
theorem yuw {rec:Rec}(H:yy rec)(hO:z7 rec){b:Bool}{w:World}{p:Nat}{st:RS}{a:UInt8}{r:List UInt8}{x:Option (RS×Bool)}(g:RAt w p st)(z:st.Wg)(t:Env p w)(A:st.str=78::a::r)
  (hw:¬ ((97<=a.toNat/\a.toNat<=122)\/(65<=a.toNat/\a.toNat<=90))) (B:some none=some x):Calls Tryz.prog 100 #[.pointer (some ⟨p,0,none⟩),.bool b] w fun e w'=>jj (.path b) p w x e w':=by
 obtain⟨k,j,d,f⟩:=yca g b;replace t:=t.upd g j;replace g:=k;have v:=j;clear k j;have s:=g.str;unfold pw at s;rw[A] at s;have h:=d.1;have i:=f.1;unfold pw at h i;have D:=lh A;clear A;obtain rfl:=Option.some.inj B;have E:decide (97<=(a.toNat:Int))=false\/decide (97<=(a.toNat:Int))=true/\decide ((a.toNat:Int)<=122)=false:=by simp only[decide_eq_false_iff_not,decide_eq_true_eq];omega
 have F:decide (65<=(a.toNat:Int))=false\/decide (65<=(a.toNat:Int))=true/\decide ((a.toNat:Int)<=90)=false:=by simp only[decide_eq_false_iff_not,decide_eq_true_eq];omega
 clear hw
 go_enter Tryz.func100,Tryz.ntmps100
 go_wp2_with fail
 refine(yh g z.wf D).mono ?_;rintro e J ⟨rfl,l,c⟩;have n:(st.go (a::r)).Wg:=z.go (by rw[D.out];simp);have q:=B;clear s;replace t:=t.upd g c;replace v:=v.trans c;replace d:=d.upd c;replace h:=d.1;replace f:=f.upd c;replace i:=f.1;replace g:=l;replace z:=n;replace B:=q;clear l n c q;have s:_=some (Value.string ⟨(a::r).toArray⟩):=g.str
 rcases E with l1|⟨l1,l2⟩<;>rcases F with G|⟨G,I⟩
 all_goals
  go_wp2_with(go_at_call 70;refine(yu g).mono ?_;rintro e K ⟨m,o,C,rfl,u,y⟩)
  all_goals exact⟨rfl,m,o,C,rfl,u,v.trans y⟩
theorem yux {rec:Rec}(H:yy rec)(hO:z7 rec){b:Bool}{w:World}{p:Nat}{st:RS}{l:UInt8}{r:List UInt8}{x:Option (RS×Bool)}(k:RAt w p st)(u:st.Wg)(n:Env p w)(J:st.str=78::l::r)
  (R:65<=(l.toNat:Int)) (S:(l.toNat:Int)<=90) (F:l≠67) (G:l≠83) (q:(ye (rec (.path b) (st.go r)) fun z=>match idN z.1.str with|none=>none|some none=>some none|some (some y)=>asU (yck l y.1 y.2.1 (z.1.go y.2.2)))=some x):Calls Tryz.prog 100 #[.pointer (some ⟨p,0,none⟩),.bool b] w fun e w'=>jj (.path b) p w x e w':=by
 obtain⟨E,A,c,d⟩:=yca k b;replace n:=n.upd k A;replace k:=E;have t:=A;clear E A;have D:=k.str;unfold pw at D;rw[J] at D;have i:=c.1;have j:=d.1;unfold pw at i j;have M:=lh J;clear J;have O:decide (97<=(l.toNat:Int))=false:=by simp;omega
 go_enter Tryz.func100,Tryz.ntmps100
 go_wp2_with fail
 refine(yh k u.wf M).mono ?_;rintro e L ⟨rfl,f,a⟩;have g:(st.go (l::r)).Wg:=u.go (by rw[M.out];simp);have h:=q;clear D;replace n:=n.upd k a;replace t:=t.trans a;replace c:=c.upd a;replace i:=c.1;replace d:=d.upd a;replace j:=d.1;replace k:=f;replace u:=g;replace q:=h;clear f g a h;have D:_=some (Value.string ⟨(l::r).toArray⟩):=k.str
 go_wp2_with fail
 refine(yh k u.wf (show Hid ((st.go (l::r)).str=l::r) from rfl)).mono ?_;rintro e L ⟨rfl,f,a⟩;rw[RS.go_go] at f;have g:(st.go r).Wg:=(RS.go_go st (l::r) r)▸u.go (r:=r) (by show r.length<=(l::r).length;simp);have h:=q;clear D;replace n:=n.upd k a;replace t:=t.trans a;replace c:=c.upd a;replace i:=c.1;replace d:=d.upd a;replace j:=d.1;replace k:=f;replace u:=g;replace q:=h;clear f g a h
 go_wp2_with fail
 refine ki H k u n q (fun e Q I C=>?_) (fun z L f g a h=>?_)
 ·subst C;obtain⟨m,o,K,rfl,v,B⟩:=I;go_wp2;exact⟨rfl,m,o,K,rfl,v,t.trans B⟩
 replace n:=n.upd k a;replace t:=t.trans a;replace c:=c.upd a;replace i:=c.1;replace d:=d.upd a;replace j:=d.1;replace k:=f;replace u:=g;replace q:=h;clear f g a h
 go_wp2_with fail
 refine ycp k u q (fun e Q I C=>?_) (fun z L f g a h P=>?_)
 ·subst C;obtain⟨m,o,K,rfl,v,B⟩:=I;go_wp2;exact⟨rfl,m,o,K,rfl,v,t.trans B⟩
 replace n:=n.upd k a;replace t:=t.trans a;replace c:=c.upd a;replace i:=c.1;replace d:=d.upd a;replace j:=d.1;replace k:=f;replace u:=g;replace q:=h;clear f g a h
 exfalso
 unfold yck at q;rw[if_neg (by omega),show ∀ y:Option (Option RS),asU y=ye y fun s=>some (some (s,false)) from fun _=>rfl,yp] at q;have N:=(ye0 q).2;rw[if_neg F,if_neg G] at N
 cases N
theorem yx3 {b:Bool}{w:World}{p:Nat}{st:RS}(n:RAt w p st)(k:st.str=[]) :
  Calls Tryz.prog 100 #[.pointer (some ⟨p,0,none⟩),.bool b] w fun e w'=>va p w e w':=by
 obtain⟨c,g,d,l⟩:=yca n b;have j:=c.str;unfold pw at j;rw[k] at j;have a:=d.1;unfold pw at a;clear k
 go_enter Tryz.func100,Tryz.ntmps100
 go_wp2_with(go_at_call 70;refine(yu c).mono ?_;rintro e q ⟨m,o,i,rfl,f,h⟩)
 exact⟨rfl,m,o,i,rfl,f,g.trans h⟩
theorem yxw {b:Bool}{w:World}{p:Nat}{st:RS}{c:UInt8}{r:List UInt8}(A:RAt w p st)(y:st.str=c::r)(f:c≠67)(h:c≠77)(j:c≠88)(k:c≠89)(i:c≠78)(g:c≠73)(d:c≠66) :
  Calls Tryz.prog 100 #[.pointer (some ⟨p,0,none⟩),.bool b] w fun e w'=>va p w e w':=by
 obtain⟨l,t,q,z⟩:=yca A b;have x:=l.str;unfold pw at x;rw[y] at x;have a:=q.1;unfold pw at a;have C:=qy (n:=67) (by omega) f;have E:=qy (n:=77) (by omega) h;have G:=qy (n:=88) (by omega) j;have H:=qy (n:=89) (by omega) k;have F:=qy (n:=78) (by omega) i;have D:=qy (n:=73) (by omega) g;have B:=qy (n:=66) (by omega) d;clear y f h j k i g d
 go_enter Tryz.func100,Tryz.ntmps100
 go_wp2_with(go_at_call 70;refine(yu l).mono ?_;rintro e I ⟨m,o,v,rfl,s,u⟩)
 exact⟨rfl,m,o,v,rfl,s,t.trans u⟩
theorem yr5 {rec:Rec}(H:yy rec)(hO:z7 rec){b:Bool}{w:World}{p:Nat}{st:RS}{x:Option (RS×Bool)}(f:RAt w p st)(h:st.Wg)(g:Env p w)(a:xi rec b st=some x) :
  Calls Tryz.prog 100 #[.pointer (some ⟨p,0,none⟩),.bool b] w fun e w'=>jj (.path b) p w x e w':=by
 unfold xi at a
 cases d:st.str with
 | nil=>rw[d] at a;obtain rfl:=Option.some.inj a;exact yx3 f d
 | cons c r=>
  rw[d] at a;simp only at a
  by_cases k:c=67
  ·subst k;rw[if_pos rfl] at a;exact yu2 H hO f h g d a
  rw[if_neg k] at a
  by_cases m:c=77
  ·subst m;rw[if_pos rfl] at a;exact yx0 H hO f h g d a
  rw[if_neg m] at a
  by_cases o:c=88
  ·subst o;rw[if_pos rfl] at a;exact yxz H hO f h g d a
  rw[if_neg o] at a
  by_cases q:c=89
  ·subst q;rw[if_pos rfl] at a;exact yxy H hO f h g d a
  rw[if_neg q] at a
  by_cases n:c=78
  ·subst n;rw[if_pos rfl] at a
   cases r with
   | nil=>exact yu1 H hO f h g d rfl a
   | cons i r=>
    simp only at a
    by_cases hw:¬ ((97<=i.toNat/\i.toNat<=122)\/(65<=i.toNat/\i.toNat<=90))
    ·rw[if_pos hw] at a;exact yuw H hO f h g d hw a
    rw[if_neg hw] at a
    by_cases u:97<=i.toNat/\i.toNat<=122
    ·exact yuy H hO f h g d (by omega) (by omega) a
    ·have v:65<=i.toNat/\i.toNat<=90:=by omega
     by_cases s:i=67
     ·subst s;exact yu0 H hO f h g d a
     by_cases t:i=83
     ·subst t;exact yuz H hO f h g d a
     exact yux H hO f h g d (by omega) (by omega) s t a
  rw[if_neg n] at a
  by_cases l:c=73
  ·subst l;rw[if_pos rfl] at a;exact yx1 H hO f h g d a
  rw[if_neg l] at a
  by_cases j:c=66
  ·subst j;rw[if_pos rfl] at a;exact yx2 H hO f h g d a
  rw[if_neg j] at a;obtain rfl:=Option.some.inj a;exact yxw f d k m o q n l j
theorem yvr (s:List UInt8):(∀ c∈s,c≠95)\/∃ a b,s=a++95::b/\∀ c∈a,c≠95:=by
 induction s with
 | nil=>exact .inl (fun c h=>by cases h)
 | cons c r f=>
  by_cases e:c=95
  ·exact .inr ⟨[],r,by rw[e];rfl,fun c h=>by cases h⟩
  ·rcases f with h|⟨a,b,rfl,h⟩
   ·exact .inl (fun d hd=>by rcases List.mem_cons.1 hd with rfl|hd;(· exact e);(· exact h d hd))
   ·exact .inr ⟨c::a,b,rfl,fun d hd=>by rcases List.mem_cons.1 hd with rfl|hd;(· exact e);(· exact h d hd)⟩
theorem ym3 {s:List UInt8}{k:Nat}(h:k < s.length):List.drop k (List.take (k+1) s)=[s[k]]:=by
 rw[List.drop_take,List.drop_eq_getElem_cons h,show k+1-k=1 by omega];rfl
theorem ymo (s:List UInt8)(f:s.length<=4294967296)(hd:∀ c∈s,c≠95)(w:World) :
  Calls Tryz.prog 66 #[.string ⟨s.toArray⟩,.string ⟨#[95]⟩] w fun e w'=>e=.returned (.int .i64 (-1))/\w=w':=by
 go_enter Tryz.func66,Tryz.ntmps66
 go_wp2
 go_loop [5] (fun b=>∃ k:Nat,k<=s.length/\b=.int .i64 k) (fun b=>s.length-(intOf b).toNat)
 case atStart=>exact⟨0,by omega,rfl⟩
 case round=>
  obtain⟨k,d,rfl⟩:=hrel
  by_cases a:k < s.length
  ·have g:(List.drop k (List.take (k+1) s) == [95])=false:=by
    rw[ym3 a];have:=hd s[k] (List.getElem_mem a);simp[this]
   go_wp2
   go_round
   case rel=>exact⟨k+1,by omega,by go_num⟩
   case measure=>simp[intOf];omega
  ·obtain rfl:k=s.length:=by omega
   go_wp2;go_ret
   exact⟨rfl,rfl⟩
theorem ymp (a b:List UInt8)(p:(a++95::b).length<=4294967296)(hd:∀ c∈a,c≠95)(w:World) :
  Calls Tryz.prog 66 #[.string ⟨(a++95::b).toArray⟩,.string ⟨#[95]⟩] w fun e w'=>e=.returned (.int .i64 a.length)/\w=w':=by
 have m:(a++95::b).length=a.length+(b.length+1):=by simp
 have g:∀ k,(h:k < (a++95::b).length)->k < a.length->(a++95::b)[k]≠95:=fun k h l=>by
  rw[List.getElem_append_left l];exact hd _ (List.getElem_mem l)
 have d:(h:a.length < (a++95::b).length)->(a++95::b)[a.length]=95:=fun h=>by simp
 generalize a++95::b=s at *
 go_enter Tryz.func66,Tryz.ntmps66
 go_wp2
 go_loop [5] (fun j=>∃ k:Nat,k<=a.length/\j=.int .i64 k) (fun j=>s.length-(intOf j).toNat)
 case atStart=>exact⟨0,by omega,rfl⟩
 case round=>
  obtain⟨k,o,rfl⟩:=hrel;have f:k < s.length:=by omega
  by_cases i:k < a.length
  ·have n:(List.drop k (List.take (k+1) s) == [95])=false:=by
    rw[ym3 f];have:=g k f i;simp[this]
   clear g d;go_wp2
   go_round
   case rel=>exact⟨k+1,by omega,by go_num⟩
   case measure=>simp[intOf];omega
  ·obtain rfl:k=a.length:=by omega
   have n:(List.drop a.length (List.take (a.length+1) s) == [95])=true:=by
    rw[ym3 f,d f];rfl
   clear g d;go_wp2;go_ret;exact⟨rfl,rfl⟩
def yfw (l:List UInt8):List UInt8:=l.map fun c=>if c=95 then 45 else c
theorem yo0 {l:List UInt8}(h:∀ c∈l,c≠95):yfw l=l:=by
 unfold yfw;rw[List.map_congr_left (g:=id) (fun c a=>by simp[h c a])];simp
theorem yvw {a b:List UInt8}(h:∀ c∈a,c≠95):yfw (a++95::b)=a++45::yfw b:=by
 have:yfw (a++95::b)=yfw a++45::yfw b:=by unfold yfw;simp
 rw[this,yo0 h]
theorem yp2 {w:World}{B:Nat}{v:Value}{l:List UInt8}(a:w.ownsRow B 5 1 v l.length (je l)):(convert 22 9 v).run Tryz.prog w=.ok (.string ⟨l.toArray⟩) w:=by
 rcases a.2 with⟨rfl,c⟩|⟨g,cap,b,rfl,_,_,_,_,_,_⟩
 ·obtain rfl:l=[]:=List.length_eq_zero_iff.1 c
  exact run_convert_bytes_string w 22 9 5 none 0 0 Tryz.underlying22 Tryz.underlying5 Tryz.underlying9
 ·refine run_convert_bytes_back w 22 9 5 ⟨g,0,none⟩ cap l Tryz.underlying22 Tryz.underlying5 Tryz.underlying9 (fun j d=>?_)
  exact a.cells (g:=g) rfl j _ (by simp[je,d])
theorem yeu {B:Nat}{w wr a:World}{e:TypeId}{v:Value}{n:Nat}{xs:List Value}(hb:Below B w wr)(f:B<=wr.heap.size)(d:wr.ownsRow B e 1 v n xs)
  (b:wr.grownBy a v.ownBlock):Below B w a/\B<=a.heap.size:=
 ⟨hb.grown b f (fun k c=>yaq d k c),by have:=b.size;omega⟩
theorem yk4 (s:List UInt8)(N:s.length<=4294967296)(w:World) :
  Calls Tryz.prog 174 #[.string ⟨s.toArray⟩,.string ⟨#[95]⟩,.string ⟨#[45]⟩] w fun e w'=>e=.returned (.string ⟨(yfw s).toArray⟩)/\Below w.heap.size w w':=by
 obtain⟨i0,hi,o,p,q⟩:=info_parts Tryz.infoByte
 go_enter Tryz.func174,Tryz.ntmps174
 go_wp2
 go_loopg [0,7] s.length (fun gk J I wr=>∃ (done rest:List UInt8),J=.string ⟨rest.toArray⟩/\Hid (rest.length=gk/\done.length+rest.length=s.length/\yfw s=done++yfw rest)/\wr.ownsRow w.heap.size 5 1 I done.length (je done)/\Below w.heap.size w wr)
 case atStart=>exact⟨[],s,rfl,⟨rfl,by simp,by simp⟩,World.ownsRow_nil _ _ _ _,Below.refl _ _⟩
 case round=>
  obtain⟨done,rest,rfl,E,u,hb⟩:=hrel;obtain⟨B,D,r⟩:=E.out;have f:=hb.size
  rcases yvr rest with n|⟨a,b,rfl,n⟩
  ·have z:=ymo rest (by omega) n
   have l:=yo0 n;have v:=lh r;clear n r
   go_wp2_with(first|(go_at_call 66;refine(z _).mono ?_;rintro e w' ⟨rfl,rfl⟩)|(at_builtin;refine zp rfl _ _ 22 9 rfl w.heap.size 5 i0 Tryz.underlying22 Tryz.underlying9 hi o p q _ done.length (je done) rfl u ⟨rest.toArray⟩ rfl ?c1 ?c2 ?c3 ?_))
   case c1=>rw[jq];unfold maxLen;omega
   case c2=>rw[jq];omega
   case c3=>exact f
   intro K A c m _ _;obtain⟨i,_⟩:=yeu hb f u m;have j:je done++Lib.strCells ⟨rest.toArray⟩=je (done++rest):=by simp[je,Lib.strCells]
   rw[j] at c;replace c:A.ownsRow w.heap.size 5 1 K (done++rest).length (je (done++rest)):=by rw[List.length_append];first|exact c|(rw[B];exact c)
   have G:=yp2 c;go_wp2;go_ret;exact⟨by rw[v.out,l];rfl,i⟩
  ·have z:=ymp a b (by omega) n
   have g:(a++95::b).length=a.length+(b.length+1):=by simp
   rw[yvw n] at r;have v:=lh r;have H:List.take a.length (a++95::b)=a:=by simp
   have l:List.drop (a.length+1) (a++95::b)=b:=by rw[show a.length+1=(a++[95]).length by simp,show a++95::b=(a++[95])++b by simp];simp
   rw[g] at B D;clear n r;have M:(a.length:Int)<=4294967296:=by omega
   have F:(b.length:Int)<=4294967296:=by omega
   go_wp2_with(first|(go_at_call 66;refine(z _).mono ?_;rintro e w' ⟨rfl,rfl⟩)|(at_builtin;refine zp rfl _ _ 22 9 rfl w.heap.size 5 i0 Tryz.underlying22 Tryz.underlying9 hi o p q _ done.length (je done) rfl u ⟨a.toArray⟩ rfl ?c1 ?c2 ?c3 ?_))
   case c1=>rw[jq];unfold maxLen;omega
   case c2=>rw[jq];omega
   case c3=>exact f
   intro v1 A c m _ _;obtain⟨i,h⟩:=yeu hb f u m;have j:je done++Lib.strCells ⟨a.toArray⟩=je (done++a):=by simp[je,Lib.strCells]
   rw[j] at c;replace c:A.ownsRow w.heap.size 5 1 v1 (done++a).length (je (done++a)):=by rw[List.length_append];exact c
   have k:(done++a).length=done.length+a.length:=by simp
   go_wp2_with(first|(at_builtin;refine zp rfl _ _ 22 9 rfl w.heap.size 5 i0 Tryz.underlying22 Tryz.underlying9 hi o p q _ (done++a).length (je (done++a)) rfl c ⟨#[45]⟩ rfl ?c1 ?c2 ?c3 ?_))
   case c1=>rw[k];unfold maxLen;show _+1<=_;omega
   case c2=>rw[k];show _+1<=_;omega
   case c3=>exact h
   intro v2 L d y _ _;obtain⟨x,C⟩:=yeu i h c y;have t:je (done++a)++Lib.strCells ⟨#[45]⟩=je (done++a++[45]):=by simp[je,Lib.strCells]
   rw[t] at d;replace d:L.ownsRow w.heap.size 5 1 v2 (done++a++[45]).length (je (done++a++[45])):=by rw[List.length_append,k];exact d
   go_wp2
   go_roundg b.length
   case measure=>omega
   case rel=>exact⟨done++a++[45],b,by rw[List.take_of_length_le (by rw[g];omega),l],⟨rfl,by simp;omega,by rw[v.out];simp⟩,d,x⟩
theorem yi7 {w:World}{p:Nat}{st:RS}(d:RAt w p st){c0:UInt8}{n:Nat}(e:c0.toNat=n) :
  (decide (st.str.head? = some c0)=false/\w.cell? ⟨p,1,none⟩=some (.string ⟨#[]⟩))\/
  ∃ (c:UInt8) (r:List UInt8),decide (st.str.head? = some c0)=((c.toNat:Int) == (n:Int))/\w.cell? ⟨p,1,none⟩=some (.string ⟨(c::r).toArray⟩):=by
 have h:=d.str
 cases b:st.str with
 | nil=>rw[b] at h;exact .inl ⟨by simp,h⟩
 | cons c r=>
  rw[b] at h;refine .inr ⟨c,r,?_,h⟩
  by_cases a:c=c0
  ·subst a;subst e;simp
  ·have:((c.toNat:Int) == (n:Int))=false:=by
    simp;intro f;exact a (UInt8.toNat_inj.1 (by omega))
   rw[this];simp[a]
theorem yat {l:List UInt8}{c:UInt8}(h:l.head? = some c):∃ r,l=c::r:=by
 cases l with
 | nil=>cases h
 | cons d r=>simp at h;exact⟨r,by rw[h]⟩
theorem yo8 {l t r:List UInt8} (h:vn l=some (some (t,false,r))):t.length<=l.length:=by
 unfold vn at h;simp only at h
 cases hd:yfv (if(decide (l.head? = some 117))=true then l.tail else l) with
 | none=>rw[hd] at h;cases h
 | some y=>
  obtain⟨v,l2⟩:=y;rw[hd] at h;have e:=(ykh hd).1;have f:(if(decide (l.head? = some 117))=true then l.tail else l).length<=l.length:=by split<;>simp
  have c:(if l2.head? = some 95 then l2.tail else l2).length<=l2.length:=by split<;>simp
  simp only at h;generalize (if l2.head? = some 95 then l2.tail else l2)=l3 at h c
  split at h
  ·cases h
  ·split at h
   ·cases h
   ·split at h
    ·cases h
    ·rename_i g a
     have b:=Option.some.inj (Option.some.inj h);simp only[Prod.mk.injEq] at b;rw[b.2.1] at a;unfold ydg at a
     split at a
     ·cases a
     ·rw[if_pos rfl] at a
      have d:=Option.some.inj a;rw[<-b.1,<-d,List.length_take];omega
def unsM (s:RS):Option (Option RS):=if s.str.head? = some 85 then wS [117,110,115,97,102,101,32] (s.go s.str.tail) else some (some s)
def ys0 (rec:Rec)(s:RS):Option (Option RS):=
 if s.str.head? = some 117 then some (some (s.go s.str.tail))
 else ye (wS [32,45,62,32] s) fun s=>ye (rec .type s) fun z=>some (some z.1)
def yhf (rec:Rec)(s:RS):Option (Option RS):=
 ye (wS [102,110,40] s) fun s=>ye (ycu rec s) fun z=>ye (yb0 69 z.1) fun s=>ye (wS [41] s) (ys0 rec)
theorem yys (rec:Rec)(st:RS):fnM rec st=ye (yay st) fun s=>ye (unsM s) fun s=>ye (yml s) (yhf rec):=rfl
theorem yyr {rec:Rec}(H:yy rec){w:World}{p:Nat}{st:RS}{x:Option RS}(i:RAt w p st)(l:st.Wg)(q:Env p w)(g:fnM rec st=some x) :
  Calls Tryz.prog 151 #[.pointer (some ⟨p,0,none⟩)] w fun e w'=>yib p w x e w':=by
 have j:=Upd.refl p w;rw[yys] at g
 go_enter Tryz.func151,Tryz.ntmps151
 go_wp2_with fail
 refine ji (fun z h=>yht i l h) g (fun e U E A=>?_) (fun s1 B S b d a f=>?_)
 ·subst A;obtain⟨m,o,I,rfl,v,y⟩:=E;go_wp2;exact⟨rfl,m,o,I,rfl,v,j.trans y⟩
 replace q:=q.upd i a;replace j:=j.trans a;replace i:=b;replace l:=d;replace g:=f;clear b d a f;clear S;obtain⟨u1,F⟩:∃ u,decide ((s1).str.head? = some 85)=u:=⟨_,rfl⟩
 go_upto_region 1 with fail
 go_cut [20] (fun Z J=>Z=.bool u1/\B=J)
 case first=>
  rcases yi7 i (c0:=85) (n:=85) rfl with⟨C,O⟩|⟨c,r,C,O⟩
  all_goals
   rw[F] at C;have V:=lh C;clear C g F;go_wp2
   all_goals (go_meet;exact⟨by rw[V.out]<;>rfl,rfl⟩)
 case rest=>
 obtain⟨rfl,rfl⟩:=hcut
 go_upto_if 20 with fail
 go_cut [12] (fun _ J=>∃ s,RAt J p s/\s.Wg/\Env p J/\Upd p w J/\Hid (ye (yml s) (yhf rec)=some x))
 case first=>
  unfold unsM at g
  cases u1 with
  | true=>
   obtain⟨r,hr⟩:=yat (of_decide_eq_true F);rw[if_pos (of_decide_eq_true F)] at g;rw[show(s1).str.tail=r by rw[hr];rfl] at g;have W:=lh hr;clear hr
   go_wp2_with fail
   refine(yh i l.wf W).mono ?_;rintro e B ⟨rfl,b,a⟩;have d:((s1).go r).Wg:=l.go (by rw[W.out];simp);have f:=g;replace q:=q.upd i a;replace j:=j.trans a;replace i:=b;replace l:=d;replace g:=f;clear b d a f
   go_wp2_with fail
   refine zv [117,110,115,97,102,101,32] i l g fun B b d a f=>?_;replace q:=q.upd i a;replace j:=j.trans a;replace i:=b;replace l:=d;replace g:=f;clear b d a f;go_wp2
   go_meet
   exact⟨_,i,l,q,j,g⟩
  | false=>
   rw[if_neg (of_decide_eq_false F),bindM_ok] at g;go_wp2
   go_meet
   exact⟨_,i,l,q,j,g⟩
 case rest=>
 clear i l q j g F;obtain⟨L,i,l,q,j,K⟩:=hcut;have g:=K.out;clear K;obtain⟨u2,G⟩:∃ u,decide ((L).str.head? = some 75)=u:=⟨_,rfl⟩
 go_upto_region 4 with fail
 go_cut [38] (fun Z J=>Z=.bool u2/\wc=J)
 case first=>
  rcases yi7 i (c0:=75) (n:=75) rfl with⟨C,O⟩|⟨c,r,C,O⟩
  all_goals
   rw[G] at C;have V:=lh C;clear C g G;go_wp2
   all_goals (go_meet;exact⟨by rw[V.out]<;>rfl,rfl⟩)
 case rest=>
 obtain⟨rfl,rfl⟩:=hcut
 go_upto_if 38 with fail
 go_cut [12] (fun _ J=>∃ s,RAt J p s/\s.Wg/\Env p J/\Upd p w J/\Hid (yhf rec s=some x))
 case first=>
  unfold yml at g
  cases u2 with
  | true=>
   obtain⟨r,hr⟩:=yat (of_decide_eq_true G);rw[if_pos (of_decide_eq_true G)] at g;rw[show(L).str.tail=r by rw[hr];rfl] at g;have W:=lh hr;clear hr
   go_wp2_with fail
   refine(yh i l.wf W).mono ?_;rintro e B ⟨rfl,b,a⟩;have d:((L).go r).Wg:=l.go (by rw[W.out];simp);have f:=g;replace q:=q.upd i a;replace j:=j.trans a;replace i:=b;replace l:=d;replace g:=f;clear b d a f;obtain⟨u3,D⟩:∃ u,decide ((L.go r).str.head? = some 67)=u:=⟨_,rfl⟩
   go_upto_region 6 with fail
   go_cut [54] (fun Z J=>Z=.bool u3/\B=J)
   case first=>
    rcases yi7 i (c0:=67) (n:=67) rfl with⟨C,O⟩|⟨c,r,C,O⟩
    all_goals
     rw[D] at C;have V:=lh C;clear C g D;go_wp2
     all_goals (go_meet;exact⟨by rw[V.out]<;>rfl,rfl⟩)
   case rest=>
   obtain⟨rfl,rfl⟩:=hcut
   cases u3 with
   | true=>
    obtain⟨r3,R⟩:=yat (of_decide_eq_true D);rw[if_pos (show r.head? = some 67 from of_decide_eq_true D)] at g;have N:r=67::r3:=R;rw[show r.tail=r3 by rw[N];rfl] at g;have X:Hid ((L.go r).str=67::r3):=R;clear R N D
    go_wp2_with fail
    refine(yh i l.wf X).mono ?_;rintro e B ⟨rfl,b,a⟩;have d:((L.go r).go r3).Wg:=l.go (by rw[X.out];simp);rw[RS.go_go] at b d;have f:=g;replace q:=q.upd i a;replace j:=j.trans a;replace i:=b;replace l:=d;replace g:=f;clear b d a f
    go_wp2_with fail
    refine zv [101,120,116,101,114,110,32,34,67,34,32] i l g fun B b d a f=>?_;replace q:=q.upd i a;replace j:=j.trans a;replace i:=b;replace l:=d;replace g:=f;clear b d a f;go_wp2
    go_meet
    exact⟨_,i,l,q,j,g⟩
   | false=>
    rw[if_neg (show ¬ r.head? = some 67 from of_decide_eq_false D),yp] at g;clear D;have Q:=l
    go_wp2_with fail
    refine zv [101,120,116,101,114,110,32,34] i l g fun B b d a f=>?_;replace q:=q.upd i a;replace j:=j.trans a;replace i:=b;replace l:=d;replace g:=f;clear b d a f;have ac:(match vn ((L.go r).wr [101,120,116,101,114,110,32,34]).str with|none=>none|some none=>some none|some (some z)=>ye (if z.2.1=true then some none else ye (wS (yfw z.1) (((L.go r).wr [101,120,116,101,114,110,32,34]).go z.2.2)) fun s=>wS [34,32] s) (yhf rec))=some x:=by
     rw[<-g];rcases vn ((L.go r).wr [101,120,116,101,114,110,32,34]).str with _|_|z<;>rfl
    replace g:=ac;clear ac
    go_wp2_with fail
    refine ykk i l g (fun e U E A=>?_) (fun z B b d a f ad=>?_)
    ·subst A;obtain⟨m,o,I,rfl,v,y⟩:=E;go_wp2;exact⟨rfl,m,o,I,rfl,v,j.trans y⟩
    replace q:=q.upd i a;replace j:=j.trans a;replace i:=b;replace l:=d;replace g:=f;clear b d a f;obtain⟨t,u,r9⟩:=z
    cases u with
    | true=>
     obtain rfl:=Option.some.inj g
     go_wp2_with(go_at_call 70;refine(yu i).mono ?_;rintro e w9 ⟨m,o,an,rfl,ah,ai⟩)
     exact⟨rfl,m,o,an,rfl,ah,j.trans ai⟩
    | false=>
     have al:=yo8 ad;have ak:=l.o1;have aj:=l.o2;rw[ymq] at al;have ab:t.length<=4294967296:=by
      have C:((L.go r).str.length:Int)<=4294967296:=by have:=Q.o1;have:=Q.o2;have:=Q.o0;omega
      omega
     clear ad ak aj;simp only at g i l;rw[if_neg (by simp),yp] at g
     go_wp2_with fail
     refine(yk4 t ab _).mono ?_;rintro e w5 ⟨rfl,P⟩;have b:=i.below P;have a:=Upd.of_below i.lt P;have d:=l;have f:=g;clear P;replace q:=q.upd i a;replace j:=j.trans a;replace i:=b;replace l:=d;replace g:=f;clear b d a f
     go_wp2_with fail
     refine zv (yfw t) i l g fun B b d a f=>?_;replace q:=q.upd i a;replace j:=j.trans a;replace i:=b;replace l:=d;replace g:=f;clear b d a f
     go_wp2_with fail
     refine zv [34,32] i l g fun B b d a f=>?_;replace q:=q.upd i a;replace j:=j.trans a;replace i:=b;replace l:=d;replace g:=f;clear b d a f;go_wp2
     go_meet
     exact⟨_,i,l,q,j,g⟩
  | false=>
   rw[if_neg (of_decide_eq_false G),bindM_ok] at g;go_wp2
   go_meet
   exact⟨_,i,l,q,j,g⟩
 case rest=>
 clear i l q j g G;obtain⟨s3,i,l,q,j,K⟩:=hcut;have g:=K.out;clear K;unfold yhf at g
 go_wp2_with fail
 refine zv [102,110,40] i l g fun B b d a f=>?_;replace q:=q.upd i a;replace j:=j.trans a;replace i:=b;replace l:=d;replace g:=f;clear b d a f;generalize s3.wr [102,110,40]=s4 at *;unfold ycu at g;have HX:=lh g;clear g;go_wp2
 go_loopg [4] (s4.str.length+1) (fun gk vv wr=>∃ (k:Nat) (s:RS),vv=.bool (decide (k=0))/\RAt wr p s/\s.Wg/\Env p wr/\Hid (ye (xy (fun s=>ye (rec .type s) fun z=>some (some z.1)) [44,32] gk k s) (fun z=>ye (yb0 69 z.1) fun s=>ye (wS [41] s) (ys0 rec))=some x)/\Upd p w wr)
 case atStart=>exact⟨0,s4,rfl,i,l,q,HX.out,j⟩
 case round=>
  clear i l q j HX;obtain⟨k,s,rfl,i,l,q,K,j⟩:=hrel
  cases gk with
  | zero=>cases K.out
  | succ gk=>
   rcases ylf i with⟨he,hc⟩|⟨he,c,r,hc,O⟩
   ·have g:=K.out
    rw[ycm he,bindM_ok] at g;clear K he
    rcases hc with hc|⟨r,hc⟩
    all_goals
     go_wp2_with fail
     refine ji (fun z h=>yb9 (c:=69) i l yer h) g (fun e U E A=>?_) (fun s1 B S b d a f=>?_)
     ·subst A;obtain⟨m,o,I,rfl,v,y⟩:=E;go_wp2;exact⟨rfl,m,o,I,rfl,v,j.trans y⟩
     replace q:=q.upd i a;replace j:=j.trans a;replace i:=b;replace l:=d;replace g:=f;clear b d a f;clear S
     go_wp2_with fail
     refine zt 41 i l g fun B b d a f=>?_;replace q:=q.upd i a;replace j:=j.trans a;replace i:=b;replace l:=d;replace g:=f;clear b d a f;generalize s1.wr [41]=s5 at *;unfold ys0 at g
     by_cases T:s5.str.head? = some 117
     ·obtain⟨r5,M⟩:=yat T
      rw[if_pos T,show s5.str.tail=r5 by rw[M];rfl] at g;have k1:=i.str;rw[M] at k1;have Y:=lh M;clear M T
      go_wp2_with fail
      refine(yh i l.wf Y).mono ?_;rintro e B ⟨rfl,b,a⟩;have d:(s5.go r5).Wg:=l.go (by rw[Y.out];simp);have f:=g;replace q:=q.upd i a;replace j:=j.trans a;replace i:=b;replace l:=d;replace g:=f;clear b d a f;obtain rfl:=Option.some.inj g;go_wp2;go_end0;exact⟨⟨rfl,i,j⟩,l⟩
     ·rw[if_neg T] at g
      rcases yi7 i (c0:=117) (n:=117) rfl with⟨C,O⟩|⟨c,r,C,O⟩
      ·clear C T
       go_wp2_with fail
       refine zv [32,45,62,32] i l g fun B b d a f=>?_;replace q:=q.upd i a;replace j:=j.trans a;replace i:=b;replace l:=d;replace g:=f;clear b d a f
       go_wp2_with fail
       refine jt H i l q g (fun e U E A=>?_) (fun z B b d a f=>?_)
       ·subst A;obtain⟨m,o,I,rfl,v,y⟩:=E;go_wp2;exact⟨rfl,m,o,I,rfl,v,j.trans y⟩
       replace q:=q.upd i a;replace j:=j.trans a;replace i:=b;replace l:=d;replace g:=f;clear b d a f;obtain rfl:=Option.some.inj g;go_wp2;go_end0;exact⟨⟨rfl,i,j⟩,l⟩
      ·have h2:((c.toNat:Int) == 117)=false:=by rw[decide_eq_false T] at C;exact C.symm
       clear C T
       go_wp2_with fail
       refine zv [32,45,62,32] i l g fun B b d a f=>?_;replace q:=q.upd i a;replace j:=j.trans a;replace i:=b;replace l:=d;replace g:=f;clear b d a f
       go_wp2_with fail
       refine jt H i l q g (fun e U E A=>?_) (fun z B b d a f=>?_)
       ·subst A;obtain⟨m,o,I,rfl,v,y⟩:=E;go_wp2;exact⟨rfl,m,o,I,rfl,v,j.trans y⟩
       replace q:=q.upd i a;replace j:=j.trans a;replace i:=b;replace l:=d;replace g:=f;clear b d a f;obtain rfl:=Option.some.inj g;go_wp2;go_end0;exact⟨⟨rfl,i,j⟩,l⟩
   ·have g:=K.out
    rw[ydn he,yp] at g;clear K he
    cases k with
    | zero=>
     rw[if_pos rfl,bindM_ok,yp,yp] at g
     go_wp2_with fail
     refine jt H i l q g (fun e U E A=>?_) (fun z B b d a f=>?_)
     ·subst A;obtain⟨m,o,I,rfl,v,y⟩:=E;go_wp2;exact⟨rfl,m,o,I,rfl,v,j.trans y⟩
     replace q:=q.upd i a;replace j:=j.trans a;replace i:=b;replace l:=d;replace g:=f;clear b d a f;rw[bindM_ok] at g;go_wp2
     go_roundg gk
     case measure=>omega
     case rel=>exact⟨1,z.1,rfl,i,l,q,g,j⟩
    | succ k=>
     rw[if_neg (by omega)] at g;have hk:decide (k+1=0)=false:=by simp
     go_wp2_with fail
     refine zv [44,32] i l g fun B b d a f=>?_;replace q:=q.upd i a;replace j:=j.trans a;replace i:=b;replace l:=d;replace g:=f;clear b d a f;rw[yp,yp] at g
     go_wp2_with fail
     refine jt H i l q g (fun e U E A=>?_) (fun z B b d a f=>?_)
     ·subst A;obtain⟨m,o,I,rfl,v,y⟩:=E;go_wp2;exact⟨rfl,m,o,I,rfl,v,j.trans y⟩
     replace q:=q.upd i a;replace j:=j.trans a;replace i:=b;replace l:=d;replace g:=f;clear b d a f;rw[bindM_ok] at g;go_wp2
     go_roundg gk
     case measure=>omega
     case rel=>exact⟨k+2,z.1,rfl,i,l,q,g,j⟩
end Go.Proofs.YtfckcdbpiepchaaGreatDoor
