import Derived.Test.YtfckcdbpiepchaaGreatDoorNs05
namespace Go.Proofs.YtfckcdbpiepchaaGreatDoor
open Go.RowKit
set_option maxRecDepth 100000
set_option maxHeartbeats 8000000
set_option linter.all false
structure yn3 (n:Nat)(r r':RR):Prop where
 why:r.why≠0->r'.why=r.why
 pos:r.pos<=r'.pos
 hi:r.pos<=n->r'.pos<=n
 left:r'.left<=r.left
 kl:r'.kinds.length=r.kinds.length
 refers:r.refers=true->r'.refers=true
 bad:r.bad=true->r'.bad=true
 badr:r'.bad=true->r.bad=true\/r'.refers=true
 aside:r'.aside=r.aside
 around:r'.around=r.around
 fin:r'.fin=r.fin
theorem yn3.refl (n:Nat)(r:RR):yn3 n r r:=⟨fun _=>rfl,Nat.le_refl _,id,Int.le_refl _,rfl,id,id,.inl,rfl,rfl,rfl⟩
theorem yn3.trans {n:Nat}{a b c:RR}(h:yn3 n a b)(k:yn3 n b c):yn3 n a c:=
 ⟨fun f=>by rw[k.why (by rw[h.why f];exact f),h.why f],Nat.le_trans h.pos k.pos,fun x=>k.hi (h.hi x),Int.le_trans k.left h.left,k.kl.trans h.kl,fun x=>k.refers (h.refers x),fun x=>k.bad (h.bad x),
  fun x=>by
  rcases k.badr x with d|d
  ·rcases h.badr d with e|e
   ·exact .inl e
   ·exact .inr (k.refers e)
  ·exact .inr d,k.aside.trans h.aside,k.around.trans h.around,k.fin.trans h.fin⟩
def Eats (n:Nat)(f:RR->ya×RR):Prop:=∀ r,r.pos<=n->yn3 n r (f r).2/\(f r).2.left<=r.left-1
def EatsR (n:Nat)(rec:RecR):Prop:=∀ j k b,Eats n (rec j k b)
section
variable {s:List UInt8} {rec:RecR} (hr:EatsR s.length rec)
include hr
end
end Go.Proofs.YtfckcdbpiepchaaGreatDoor
