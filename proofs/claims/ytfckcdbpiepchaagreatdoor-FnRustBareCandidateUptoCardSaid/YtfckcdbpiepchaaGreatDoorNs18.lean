import Derived.Test.YtfckcdbpiepchaaGreatDoorNs13
import Derived.Lib.ValidLaws
namespace Go.Proofs.YtfckcdbpiepchaaGreatDoor
open Go.RowKit
set_option maxRecDepth 100000
set_option maxHeartbeats 8000000
set_option linter.all false
theorem yjb (s:ByteArray)(i:Nat):Utf8.valid ((Utf8.decode s i).1:Int)=true:=by
 have d:Utf8.valid ((Utf8.runeError:Nat):Int)=true:=by decide
 have e:∀ (a b:Nat) (c:Bool),(c=true->Utf8.valid (a:Int)=true)->Utf8.valid (((if c=true then(a,b) else(Utf8.runeError,1)):Nat×Nat).1:Int)=true:=by
  intro a b c h
  cases c
  ·exact d
  ·exact h rfl
 unfold Utf8.decode;dsimp only
 split
 ·rename_i h
  simp only[Nat.add_zero] at h |-;unfold Utf8.valid;simp;omega
 ·split
  ·split
   ·unfold Utf8.valid
    have f:=(s.get! (i+0)).toNat_lt;have g:=(s.get! (i+1)).toNat_lt;simp;omega
   ·exact d
  ·split
   ·split
    ·rename_i h;rw[Bool.and_eq_true] at h;exact h.2
    ·exact d
   ·split
    ·split
     ·rename_i h;rw[Bool.and_eq_true] at h;exact h.2
     ·exact d
    ·exact d
theorem yvt (r:Nat)(a:Utf8.valid (r:Int)=true):(Utf8.encode (r:Int)).data.toList=Lib.encodeRune (r:Int):=by
 have hb:(r < 55296\/57344<=r)/\r<=1114111:=by unfold Utf8.valid at a;simp at a;omega
 unfold Lib.encodeRune
 by_cases c1:r < 128
 ·rw[Lib.encodeRuneZ_one (by omega) (by omega)];simp[Utf8.encode,a,c1]
 by_cases c2:r < 2048
 ·rw[Lib.encodeRuneZ_two (by omega) (by omega)]
  simp only[Utf8.encode,a,c1,c2,if_true,if_false,Int.toNat_natCast,List.map_cons,List.map_nil];rw[show(192+(r:Int) / 64).toNat=192+r / 64 by omega,show(128+(r:Int) % 64).toNat=128+r % 64 by omega]
 by_cases c3:r < 65536
 ·rw[Lib.encodeRuneZ_three (by omega)]
  simp only[Utf8.encode,a,c1,c2,c3,if_true,if_false,Int.toNat_natCast,List.map_cons,List.map_nil];rw[show(224+(r:Int) / 4096).toNat=224+r / 4096 by omega,show(128+(r:Int) / 64 % 64).toNat=128+r / 64 % 64 by omega,show(128+(r:Int) % 64).toNat=128+r % 64 by omega]
 ·rw[Lib.encodeRuneZ_four (by omega) (by omega)]
  simp only[Utf8.encode,a,c1,c2,c3,if_true,if_false,Int.toNat_natCast,List.map_cons,List.map_nil];rw[show(240+(r:Int) / 262144).toNat=240+r / 262144 by omega,show(128+(r:Int) / 4096 % 64).toNat=128+r / 4096 % 64 by omega,show(128+(r:Int) / 64 % 64).toNat=128+r / 64 % 64 by omega,show(128+(r:Int) % 64).toNat=128+r % 64 by omega]
theorem yl9 (s:ByteArray):∀ (f k:Nat),s.size<=k+f->Lib.validD (s.data.toList.drop k)=true->((xf s f k).map fun c=>(Utf8.encode c).data.toList).flatten=s.data.toList.drop k
 | 0,k,h,_=>by
  rw[List.drop_of_length_le (by simp only[Array.length_toList];exact h)];rfl
 | f+1,k,h,a=>by
  unfold xf
  split
  ·rename_i e
   have b:s.data.toList.drop k≠[]:=by
    intro g;have:=congrArg List.length g;rw[List.length_drop,Array.length_toList] at this;have j:s.data.size=s.size:=rfl;simp at this;omega
   rw[Lib.validD_step _ b] at a;have hd:=Lib.decodeL_drop s k;have hw:=Lib.decodeL_width (s.data.toList.drop k)
   split at a
   ·cases a
   ·rename_i hb
    have d:=Lib.encode_decode _ b hb;rw[hd] at d a hw;rw[List.drop_drop] at a;have i:=yl9 s f (k+(Utf8.decode s k).2) (by omega) a;rw[List.map_cons,List.flatten_cons,i,yvt _ (yjb s k),d,<-List.drop_drop];exact List.take_append_drop _ _
  ·rename_i e
   rw[List.drop_of_length_le (by simp only[Array.length_toList];exact Nat.le_of_not_lt e)];rfl
theorem yge (s:ByteArray):∀ (f k:Nat),∀ c∈xf s f k,0<=c/\Utf8.valid c=true
 | 0,k,c,h=>by simp[xf] at h
 | f+1,k,c,h=>by
  unfold xf at h
  split at h
  ·rcases List.mem_cons.1 h with rfl|h
   ·exact⟨by omega,yjb s k⟩
   ·exact yge s f _ c h
  ·simp at h
theorem yet {n:List UInt8}{l:List Int}(h:ga n=some l):u8 l=n/\∀ c∈l,0<=c/\Utf8.valid c=true:=by
 unfold ga at h
 split at h
 ·rename_i a
  obtain rfl:=Option.some.inj h;refine⟨?_,yge _ _ _⟩;rw[yn8];have:=yl9 ⟨n.toArray⟩ n.length 0 (by simp[ByteArray.size]) (by simpa using a)
  simpa using this
 ·cases h
def d36 (d:Nat):UInt8:=if d < 26 then UInt8.ofNat (97+d) else UInt8.ofNat (22+d)
theorem ykj:∀ d:Fin 36,yfi ((d36 d.val).toNat:Int)=(d.val:Int)/\yr (d36 d.val)=true/\d36 d.val≠95:=by decide
theorem ywq {d:Nat}(h:d < 36):yfi ((d36 d).toNat:Int)=(d:Int):=(ykj ⟨d,h⟩).1
theorem yta (delta:Nat)(bias:Int)(a f:Nat):dlt delta bias a (f+1) =
  if delta < (thr a bias).toNat then [d36 delta] else d36 ((thr a bias).toNat+(delta-(thr a bias).toNat) % (36-(thr a bias).toNat))::dlt ((delta-(thr a bias).toNat) / (36-(thr a bias).toNat)) bias (a+1) f:=rfl
theorem yhj:∀ (f delta:Nat)(bias:Int)(a:Nat),∀ c∈dlt delta bias a f,yr c=true/\c≠95
 | 0,_,_,_,c,h=>by simp[dlt] at h
 | f+1,delta,bias,a,c,h=>by
  rw[yta] at h;have d:=yel a bias
  split at h
  ·rw[List.mem_singleton] at h;subst h
   exact(ykj ⟨delta,by omega⟩).2
  ·rcases List.mem_cons.1 h with rfl|h
   ·have b:=Nat.mod_lt (delta-(thr a bias).toNat) (show 0 < 36-(thr a bias).toNat by omega)
    exact(ykj ⟨_,by omega⟩).2
   ·exact yhj f _ _ _ c h
theorem pow35 {k:Nat}{w:Int} (h:w=((35 ^ k:Nat):Int)) (c:w<=67000000):w < 59652323:=by
 rcases Nat.lt_or_ge k 6 with b|b
 ·have a:35 ^ k<=35 ^ 5:=Nat.pow_le_pow_right (by omega) (by omega)
  rw[show(35:Nat) ^ 5=52521875 from by decide] at a;omega
 ·have a:35 ^ 6<=35 ^ k:=Nat.pow_le_pow_right (by omega) b
  rw[show(35:Nat) ^ 6=1838265625 from by decide] at a;omega
theorem yrm (bias:Int)(r:List UInt8):∀ (b δ a:Nat) (w c:Int),δ < b->1<=a->1<=w->w<=2087831305->(thr a bias < 26->w=((35 ^ (a-1):Nat):Int))->(δ:Int)*w<=67000000->c+(δ:Int)*w<=1099511627776->
  rd (dlt δ bias a b++r) (a:Int) w c bias=some (c+(δ:Int)*w,r)
 | 0,δ,a,w,c,h,_,_,_,_,_,_=>by omega
 | b+1,δ,a,w,c,h,E,n,C,g,hd,B=>by
  rw[yta];have F:=yel a bias;obtain⟨t,s⟩:∃ t:Nat,thr a bias=(t:Int):=⟨(thr a bias).toNat,by omega⟩;have i:(thr a bias).toNat=t:=by omega
  rw[i]
  by_cases u:δ < t
  ·rw[if_pos u,List.singleton_append,rd,ywq (by omega),if_neg (by omega),s,if_pos (by omega),if_pos B]
  ·have j:=Nat.div_add_mod (δ-t) (36-t)
   have A:=Nat.mod_lt (δ-t) (show 0 < 36-t by omega);have k:(δ-t) / (36-t)<=δ-t:=Nat.div_le_self _ _;generalize (δ-t) / (36-t)=q at j k |-;generalize (δ-t) % (36-t)=m at j A |-;rw[if_neg u,List.cons_append,rd,ywq (by omega),if_neg (by omega),s,if_neg (by omega)];have l:(q:Int)*(36-(t:Int))=(δ:Int)-((t+m:Nat):Int):=by
    have:((36-t:Nat):Int)*(q:Int)+(m:Int)=((δ-t:Nat):Int):=by exact_mod_cast j
    rw[show((36-t:Nat):Int)=36-(t:Int) by omega,show((δ-t:Nat):Int)=(δ:Int)-(t:Int) by omega,Int.mul_comm] at this;omega
   have f:(q:Int)*(w*(36-(t:Int)))=(δ:Int)*w-((t+m:Nat):Int)*w:=by
    rw[<-Int.sub_mul,<-l,Int.mul_assoc,Int.mul_comm w]
   have z:0<=((t+m:Nat):Int)*w:=Int.mul_nonneg (by omega) (by omega);have D:w < 59652323:=by
    by_cases d:thr a bias < 26
    ·have p:1*w<=(δ:Int)*w:=Int.mul_le_mul_of_nonneg_right (by omega) (by omega)
     exact pow35 (g d) (by omega)
    ·have p:26*w<=(δ:Int)*w:=Int.mul_le_mul_of_nonneg_right (by omega) (by omega)
     omega
   rw[if_neg (by omega)];have v:1*1<=w*(36-(t:Int)):=Int.mul_le_mul n (by omega) (by omega) (by omega);have x:w*(36-(t:Int))<=59652322*35:=Int.mul_le_mul (by omega) (by omega) (by omega) (by omega);have o:=yrm bias r b q (a+1) (w*(36-(t:Int))) (c+((t+m:Nat):Int)*w) (by omega) (by omega) (by omega) (by omega) (fun d=>?_) (by rw[f];omega) (by rw[f];omega)
   ·rw[f] at o
    rw[show(((a+1:Nat)):Int)=(a:Int)+1 by omega] at o;rw[o]
    congr 2
    omega
   ·have p:thr a bias=1:=by unfold thr at d |-;omega
    have y:t=1:=by omega
    rw[g (by omega),y];obtain⟨e,rfl⟩:∃ e,a=e+1:=⟨a-1,by omega⟩;simp only[Nat.add_sub_cancel];rw[Nat.pow_succ]
    push_cast
    omega
theorem yl3:∀ (n m:Nat)(L:List Int)(c:List UInt8)(b a bias:Int),c.length<=n->c.length<=m->dec n L c b a bias=dec m L c b a bias
 | n,m,L,[],_,_,_,_,_=>by cases n<;>cases m<;>rfl
 | 0,_,_,_::_,_,_,_,h,_=>by simp at h
 | _+1,0,_,_::_,_,_,_,_,h=>by simp at h
 | n+1,m+1,L,x::xs,b,a,bias,d,e=>by
  unfold dec
  cases hr:rd (x::xs) 1 1 a bias with
  | none=>rfl
  | some g=>
   obtain⟨s,r⟩:=g;have f:=yg0 _ _ _ _ _ _ _ hr;simp only[List.length_cons] at f d e;simp only;rw[yl3 n m _ r _ _ _ (by omega) (by omega)]
def ynn (L:List Int)(ds:List UInt8)(now place bias:Int):Option (List Int):=dec ds.length L ds now place bias
theorem yhl (L:List Int)(b a bias:Int):ynn L [] b a bias=some L:=rfl
theorem yl5 (L:List Int)(r:List UInt8)(d i bias v:Int)(δ p:Nat)(hi:0<=i)(h:d<=v)(l:p<=L.length) (j:i+(δ:Int)=(v-d)*((L.length:Int)+1)+(p:Int)) (hb:(v-d)*((L.length:Int)+1)+(p:Int)<=67000000) (k:ya7 v=true) :
  ynn L (dlt δ bias 1 (δ+1)++r) d i bias=ynn (ydp L p v) r v ((p:Int)+1) (ybd δ ((L.length:Int)+1) (i == 0)):=by
 have a:=yrm bias r (δ+1) δ 1 1 i (by omega) (by omega) (by omega) (by omega) (fun _=>rfl) (by omega) (by omega);have e:=yg0 _ _ _ _ _ _ _ a;rw[Int.mul_one,j] at a;have b:((v-d)*((L.length:Int)+1)+(p:Int)) / ((L.length:Int)+1)=v-d:=by
  rw[Int.add_comm,Int.add_mul_ediv_right _ _ (by omega),Int.ediv_eq_zero_of_lt (by omega) (by omega)];omega
 have c:((v-d)*((L.length:Int)+1)+(p:Int)) % ((L.length:Int)+1)=(p:Int):=by
  rw[Int.add_comm,Int.add_mul_emod_self_right,Int.emod_eq_of_lt (by omega) (by omega)]
 unfold ynn;generalize g:dlt δ bias 1 (δ+1)++r=f at a e |-
 cases f with
 | nil=>simp at e
 | cons x xs=>
  rw[List.length_cons] at e |-;rw[dec];rw[show((1:Nat):Int)=1 from rfl] at a;rw[a];simp only;rw[b,c,show d+(v-d)=v by omega,if_pos k,Int.toNat_natCast];rw[yl3 xs.length r.length _ r _ _ _ (by omega) (by omega)];rw[show(v-d)*((L.length:Int)+1)+(p:Int)-i=(δ:Int) by omega]
structure Pal (L:List Int)(p:PS)(d i v:Int)(c:Nat):Prop where
 m:p.many=L.length
 e:i+(p.delta:Int)=(v-d)*((L.length:Int)+1)+(c:Int)
 f:p.first=(i == 0)
 i0:0<=i
 d0:0<=d
 dv:d<=v
theorem yvs {l:List Int}{a b:Int}(h:∀ c∈l,a<=c->b<=c)(e:a<=b):l.filter (fun c=>decide (c < b))=l.filter (fun c=>decide (c < a)):=by
 apply List.filter_congr
 intro c f;have:=h c f
 by_cases d:a<=c
 ·have:=this d
  rw[decide_eq_false (by omega),decide_eq_false (by omega)]
 ·rw[decide_eq_true (by omega),decide_eq_true (by omega)]
theorem yja {a b x:Int} : ∀ {l:List Int},x∈l->a<=x->x < b->(l.filter (fun c=>decide (c < a))).length < (l.filter (fun c=>decide (c < b))).length
 | y::l,h,i,f=>by
  have e:∀ l:List Int,(l.filter (fun c=>decide (c < a))).length<=(l.filter (fun c=>decide (c < b))).length:=by
   intro l
   induction l with
   | nil=>exact Nat.le_refl _
   | cons z l d=>
    simp only[List.filter_cons]
    by_cases g:z < a
    ·rw[if_pos (by simpa using g),if_pos (by simp;omega)];simpa using d
    ·rw[if_neg (by simpa using g)]
     split
     ·rw[List.length_cons];omega
     ·exact d
  simp only[List.filter_cons]
  rcases List.mem_cons.1 h with rfl|h
  ·rw[if_neg (by simp;omega),if_pos (by simpa using f)]
   have:=e l;rw[List.length_cons];omega
  ·have d:=yja h i f
   by_cases g:y < a
   ·rw[if_pos (by simpa using g),if_pos (by simp;omega)];simpa using d
   ·rw[if_neg (by simpa using g)]
    split
    ·rw[List.length_cons];omega
    ·exact d
theorem ygm {v:Int}(w:ya7 v=true)(j:v<=1114111):∀ (rest done:List Int) (p:PS) (d i:Int),(done++rest).length<=60->
  Pal (done.filter (fun c=>decide (c<=v))++rest.filter (fun c=>decide (c < v))) p d i v (done.filter (fun c=>decide (c<=v))).length->
  ∃ k t y,(rest.foldl (fun p c=>zg v c p) p).text=p.text++k/\(∀ c∈k,yr c=true/\c≠95)/\
   Pal ((done++rest).filter (fun c=>decide (c<=v))) (rest.foldl (fun p c=>zg v c p) p) t y v ((done++rest).filter (fun c=>decide (c<=v))).length/\
   ∀ r,ynn (done.filter (fun c=>decide (c<=v))++rest.filter (fun c=>decide (c < v))) (k++r) d i p.bias=ynn ((done++rest).filter (fun c=>decide (c<=v))) r t y (rest.foldl (fun p c=>zg v c p) p).bias
 | [],done,p,d,i,_,h=>⟨[],d,i,by simp,by simp,by simpa using h,by simp⟩
 | c::rest,done,p,d,i,u,h=>by
  have a:done++c::rest=(done++[c])++rest:=by simp
  rw[List.foldl_cons]
  by_cases n:c < v
  ·have b:(done++[c]).filter (fun c=>decide (c<=v))=done.filter (fun c=>decide (c<=v))++[c]:=by
    rw[List.filter_append,List.filter_cons,if_pos (by simp;omega)];rfl
   have l:(c::rest).filter (fun c=>decide (c < v))=c::rest.filter (fun c=>decide (c < v)):=by rw[List.filter_cons,if_pos (by simpa using n)]
   rw[l] at h |-;have E:∀ x:List Int,done.filter (fun c=>decide (c<=v))++c::x=(done++[c]).filter (fun c=>decide (c<=v))++x:=by intro x;rw[b];simp
   rw[E] at h |-;have q:zg v c p={ p with delta:=p.delta+1 }:=by unfold zg;rw[if_pos n,if_neg (by omega)]
   rw[q,a];have o:((done++[c]).filter (fun c=>decide (c<=v))).length=(done.filter (fun c=>decide (c<=v))).length+1:=by rw[b];simp
   exact ygm w j rest (done++[c]) { p with delta:=p.delta+1 } d i (by rw[<-a];exact u) ⟨h.m,by have:=h.e;rw[o];push_cast at this |-;omega,h.f,h.i0,h.d0,h.dv⟩
  ·by_cases D:c=v
   ·subst D
    have b:(done++[c]).filter (fun x=>decide (x<=c))=done.filter (fun x=>decide (x<=c))++[c]:=by
     rw[List.filter_append,List.filter_cons,if_pos (by simp)];rfl
    have l:(c::rest).filter (fun x=>decide (x < c))=rest.filter (fun x=>decide (x < c)):=by rw[List.filter_cons,if_neg (by simp)]
    rw[l] at h |-;rw[a] at u |-;have q:zg c c p={ text:=p.text++dlt p.delta p.bias 1 (p.delta+1),many:=p.many+1,delta:=0,bias:=ybd p.delta (p.many+1) p.first,first:=false }:=by
     unfold zg;rw[if_neg n,if_pos rfl]
    rw[q];generalize H:done.filter (fun x=>decide (x<=c))=A at h b |-;generalize hB:rest.filter (fun x=>decide (x < c))=B at h |-;have I:A.length<=done.length:=by rw[<-H];exact List.length_filter_le _ _
    have J:B.length<=rest.length:=by rw[<-hB];exact List.length_filter_le _ _
    simp only[List.length_append,List.length_cons,List.length_nil] at u;have M:(A++B).length<=59:=by rw[List.length_append];omega
    have K:(c-d)*(((A++B).length:Int)+1)<=1114111*60:=Int.mul_le_mul (by have:=h.d0;omega) (by omega) (by omega) (by omega);have L:=yl5 (A++B);have z:ydp (A++B) A.length c=(done++[c]).filter (fun x=>decide (x<=c))++B:=by
     unfold ydp;rw[b,List.take_left,List.drop_left];simp
    have C:((A++B).length:Int)+1=((p.many+1:Nat):Int):=by rw[h.m];rfl
    have g:((done++[c]).filter (fun x=>decide (x<=c))++B).length=(A++B).length+1:=by rw[b];simp;omega
    obtain⟨k,t,y,F,G,g3,g4⟩:=ygm w j rest (done++[c]) { text:=p.text++dlt p.delta p.bias 1 (p.delta+1),many:=p.many+1,delta:=0,bias:=ybd p.delta (p.many+1) p.first,first:=false } c ((A.length:Int)+1) (by simp;omega) (by
     rw[hB];refine⟨by rw[g];simp[h.m],?_,?_,by omega,by have:=h.d0;have:=h.dv;omega,Int.le_refl _⟩
     ·simp only
      rw[Int.sub_self,Int.zero_mul,b];simp
     ·simp only
      symm
      rw[beq_eq_false_iff_ne]
      omega)
    rw[hB] at g4;refine⟨dlt p.delta p.bias 1 (p.delta+1)++k,t,y,by rw[F];simp,fun x s=>?_,g3,fun r=>?_⟩
    ·rcases List.mem_append.1 s with s|s
     ·exact yhj _ _ _ _ x s
     ·exact G x s
    ·rw[List.append_assoc,yl5 (A++B) (k++r) d i p.bias c p.delta A.length h.i0 h.dv (by simp) h.e (by omega) w,z,<-h.f,C]
     exact g4 r
   ·have b:(done++[c]).filter (fun c=>decide (c<=v))=done.filter (fun c=>decide (c<=v)):=by
     rw[List.filter_append,List.filter_cons,if_neg (by simp;omega)];simp
    have l:(c::rest).filter (fun c=>decide (c < v))=rest.filter (fun c=>decide (c < v)):=by rw[List.filter_cons,if_neg (by simpa using n)]
    rw[l] at h |-;have q:zg v c p=p:=by unfold zg;rw[if_neg n,if_neg D]
    rw[q,a];rw[<-b] at h |-;exact ygm w j rest (done++[c]) p d i (by rw[<-a];exact u) h
theorem yok {l:List Int}(F:l.length<=60)(G:∀ c∈l,0<=c/\Utf8.valid c=true):∀ (f:Nat) (a:Int) (p:PS) (d i:Int),128<=a->
  Pal (l.filter (fun c=>decide (c < a))) p d i a 0->l.length<=f+(l.filter (fun c=>decide (c < a))).length->
  ∃ r,(qk l f a p).text=p.text++r/\(∀ c∈r,yr c=true/\c≠95)/\ynn (l.filter (fun c=>decide (c < a))) r d i p.bias=some l
 | 0,a,p,d,i,_,h,K=>by
  have z:l.filter (fun c=>decide (c < a))=l:=List.filter_sublist.eq_of_length (by have:=List.length_filter_le (fun c=>decide (c < a)) l;omega);exact⟨[],by simp[qk],by simp,by rw[yhl,z]⟩
 | f+1,a,p,d,i,E,h,K=>by
  unfold qk
  cases o:yd5 a l with
  | none=>
   unfold yd5 at o;rw[List.min?_eq_none_iff] at o;have z:l.filter (fun c=>decide (c < a))=l:=by
    rw[List.filter_eq_self];intro c y;have:=List.filter_eq_nil_iff.1 o c y;simp at this |-;omega
   exact⟨[],by simp,by simp,by rw[yhl,z]⟩
  | some next=>
   unfold yd5 at o;rw[List.min?_eq_some_iff] at o;obtain⟨g,C⟩:=o;rw[List.mem_filter] at g;obtain⟨g,k⟩:=g;have k:a<=next:=by simpa using k
   have j:∀ c∈l,a<=c->next<=c:=fun c y w=>C c (List.mem_filter.2 ⟨y,by simpa using w⟩);have v:=(G next g).2;have u:ya7 next=true/\next<=1114111:=by unfold Utf8.valid at v;unfold ya7;simp at v |-;omega
   have t:=yvs j k;simp only;have J:Pal (([]:List Int).filter (fun c=>decide (c<=next))++l.filter (fun c=>decide (c < next))) { p with delta:=p.delta+(next-a).toNat*(p.many+1) } d i next (([]:List Int).filter (fun c=>decide (c<=next))).length:=by
    rw[List.filter_nil,List.nil_append,t];refine⟨h.m,?_,h.f,h.i0,h.d0,by have:=h.dv;omega⟩;have:=h.e;have L:(((next-a).toNat*(p.many+1):Nat):Int)=(next-a)*(((l.filter (fun c=>decide (c < a))).length:Int)+1):=by
     rw[Int.natCast_mul,h.m,show(((next-a).toNat:Nat):Int)=next-a by omega];rfl
    simp only[List.length_nil];rw[Int.natCast_add,L];have n:(next-d)*(((l.filter (fun c=>decide (c < a))).length:Int)+1)=(a-d)*(((l.filter (fun c=>decide (c < a))).length:Int)+1)+(next-a)*(((l.filter (fun c=>decide (c < a))).length:Int)+1):=by
     rw[<-Int.add_mul];congr 1;omega
    rw[n];omega
   obtain⟨r,q,M,D,I,g3,g4⟩:=ygm u.1 u.2 l [] _ d i (by simpa using F) J;rw[List.nil_append] at g3 g4;rw[List.filter_nil,List.nil_append,t] at g4;have A:l.filter (fun c=>decide (c<=next))=l.filter (fun c=>decide (c < next+1)):=by
    apply List.filter_congr
    intro c _
    by_cases w:c<=next
    ·rw[decide_eq_true w,decide_eq_true (by omega)]
    ·rw[decide_eq_false w,decide_eq_false (by omega)]
   rw[A] at g3 g4;generalize l.foldl (fun p c=>zg next c p) { p with delta:=p.delta+(next-a).toNat*(p.many+1) } = H at D g3 g4 |-;have B:=yja (b:=next+1) g k (by omega);obtain⟨s,k1,k2,k3⟩:=yok F G f (next+1) { H with delta:=H.delta+1 } q M (by omega) (by
    refine⟨g3.m,?_,g3.f,g3.i0,g3.d0,by have:=g3.dv;omega⟩;have:=g3.e;have n:(next+1-q)*(((l.filter (fun c=>decide (c < next+1))).length:Int)+1)=(next-q)*(((l.filter (fun c=>decide (c < next+1))).length:Int)+1)+(((l.filter (fun c=>decide (c < next+1))).length:Int)+1):=by
     rw[show next+1-q=next-q+1 by omega,Int.add_mul,Int.one_mul]
    rw[n];simp only
    push_cast
    omega) (by omega)
   refine⟨r++s,by rw[k1,D];simp,fun x n=>?_,?_⟩
   ·rcases List.mem_append.1 n with n|n
    ·exact I x n
    ·exact k2 x n
   ·rw[g4 s]
    exact k3
theorem yeq (l:List UInt8):∀ (n a:Nat),(∀ j,a<=j->j < a+n->l[j]?≠some 95)->ydc l (a+n)=ydc l a
 | 0,a,_=>rfl
 | n+1,a,h=>by
  rw[<-Nat.add_assoc,ydc,if_neg (h (a+n) (by omega) (by omega))];exact yeq l n a fun j b c=>h j b (by omega)
theorem yyw (low a:List UInt8)(h:∀ c∈a,c≠95):ybb (low++95::a)=(low.length:Int):=by
 unfold ybb;rw[List.length_append,List.length_cons,show low.length+(a.length+1)=(low.length+1)+a.length by omega,yeq,ydc,if_pos (by simp)];intro j d e b;rw[List.getElem?_append_right (by omega),List.getElem?_cons,if_neg (by omega)] at b;exact h _ (List.mem_of_getElem? b) rfl
theorem yyv (a:List UInt8)(h:∀ c∈a,c≠95):ybb a=-1:=by
 unfold ybb;have:=yeq a a.length 0 fun j _ _ b=>h _ (List.mem_of_getElem? b) rfl;rw[Nat.zero_add] at this;rw[this];rfl
theorem yya:∀ l:List Int,(∀ c∈l,0<=c/\c < 128)->u8 l=l.map fun c=>UInt8.ofNat c.toNat:=by
 intro l h;rw[yn8]
 induction l with
 | nil=>rfl
 | cons c l d=>
  have e:=h c (by simp);rw[List.map_cons,List.flatten_cons,List.map_cons,d fun x b=>h x (by simp[b])];have a:Utf8.valid c=true:=by unfold Utf8.valid;simp;omega
  have:(Utf8.encode c).data.toList=[UInt8.ofNat c.toNat]:=by
   unfold Utf8.encode;simp only[a,if_true];rw[if_pos (by omega)]
  rw[this];rfl
theorem yiw:xm:=by
 intro nm e k;unfold zh at e;rw[if_neg (by unfold jr;rw[k];simp)] at e
 cases t:ga nm with
 | none=>rw[t] at e;cases e
 | some l=>
  rw[t] at e;simp only[Bool.and_eq_true,decide_eq_true_eq] at e;obtain⟨⟨H,F⟩,s⟩:=e;obtain⟨w,C⟩:=yet t;rw[Option.getD_some];have s:∀ c∈l,c < 128->yr (UInt8.ofNat c.toNat)=true:=fun c a=>of_decide_eq_true (List.all_eq_true.1 s c a);obtain⟨A,q⟩:∃ A,A=l.filter (fun c=>decide (c < 128)):=⟨_,rfl⟩;have g:∀ c∈A,0<=c/\c < 128/\yr (UInt8.ofNat c.toNat)=true:=by
   intro c a;rw[q,List.mem_filter] at a;have m:c < 128:=by simpa using a.2
   exact⟨(C c a.1).1,m,s c a.1 m⟩
  have v:A≠l:=by
   intro z;have m:=yya l (fun c a=>by rw[<-z] at a;exact⟨(g c a).1,(g c a).2.1⟩);rw[w] at m;have:nm.all yr=true:=by
    rw[m,List.all_eq_true];intro x r;rw[List.mem_map] at r;obtain⟨c,a,rfl⟩:=r;rw[<-z] at a;exact(g c a).2.2
   rw[this] at k;cases k
  obtain⟨low,f⟩:∃ low,low=A.map fun c=>UInt8.ofNat c.toNat:=⟨_,rfl⟩;have o:vi low=A:=by
   unfold vi;rw[f,List.map_map]
   conv=>rhs;rw[<-List.map_id A]
   apply List.map_congr_left
   intro c a;have:=g c a;simp only[Function.comp,UInt8.toNat_ofNat',id];omega
  have u:low.length=A.length:=by rw[f,List.length_map]
  obtain⟨b,D,y,g3⟩:=yok F C l.length 128 { text:=low++(if low=[] then [] else [95]),many:=low.length,delta:=0,bias:=72,first:=true } 128 0 (by omega) ⟨by rw[<-q];exact u,by simp,rfl,by omega,by omega,by omega⟩ (by omega);rw[<-q] at g3;have p:b≠[]:=by
   intro E;rw[E,yhl] at g3;exact v (Option.some.inj g3)
  have G:ye4 l=low++(if low=[] then [] else [95])++b:=by
   unfold ye4;rw[<-q,<-f];exact D
  have j:∀ c∈low,yr c=true:=by
   intro c a;rw[f,List.mem_map] at a;obtain⟨x,r,rfl⟩:=a;exact(g x r).2.2
  rw[G];unfold ydg;have n:(low++(if low=[] then [] else [95])++b).all yr=true:=by
   rw[List.all_eq_true];intro c a
   rcases List.mem_append.1 a with a|a
   ·rcases List.mem_append.1 a with a|a
    ·exact j c a
    ·split at a
     ·simp at a
     ·rw[List.mem_singleton] at a;rw[a];decide
   ·exact(y c a).1
  rw[if_neg (by rw[n];simp),if_neg (by simp)];have i:∀ c∈b,c≠95:=fun c a=>(y c a).2
  by_cases h:low=[]
  ·rw[if_pos h,h,List.nil_append,List.nil_append]
   have d:=yyv b i;have hd:yak b=b:=by unfold yak;rw[d];rfl
   have hb:ybc b=[]:=by unfold ybc;rw[d];rfl
   rw[hd,hb,d,if_neg (by simp[p])];have:yaf [] b=some l:=by
    unfold yaf;rw[show vi []=A by rw[<-o,h]];exact g3
   rw[this,Option.map_some,w]
  ·rw[if_neg h,List.append_assoc,List.singleton_append]
   have d:=yyw low b i;have B:0 < low.length:=List.length_pos_iff.2 h;have hd:yak (low++95::b)=b:=by
    unfold yak;rw[d,show(((low.length:Nat):Int)+1).toNat=(low++[95]).length by simp,show low++95::b=(low++[95])++b by simp,List.drop_left]
   have hb:ybc (low++95::b)=low:=by
    unfold ybc;rw[d,if_pos (by omega),Int.toNat_natCast,List.take_left]
   rw[hd,hb,d,if_neg (by simp[p];omega)];have:yaf low b=some l:=by
    unfold yaf;rw[o];exact g3
   rw[this,Option.map_some,w]
end Go.Proofs.YtfckcdbpiepchaaGreatDoor
