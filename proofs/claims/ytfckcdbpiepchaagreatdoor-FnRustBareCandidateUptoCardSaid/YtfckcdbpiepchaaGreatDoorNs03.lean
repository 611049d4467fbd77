import Derived.Test.YtfckcdbpiepchaaGreatDoorNs02
import Derived.OpenShut
namespace Go.Proofs.YtfckcdbpiepchaaGreatDoor
open Go.RowKit
set_option maxRecDepth 100000
set_option maxHeartbeats 8000000
set_option linter.all false
def Slb (w:World)(a:Option Addr)(len cap:Nat):Prop:=
 (True/\len=0/\cap<=maxLen)\/∃ b off,a=some ⟨b,off,none⟩/\len<=cap/\cap<=maxLen/\b < w.heap.size/\∀ i,i < len->∃ z:UInt8,w.cell? ⟨b,off+i,none⟩=some (.int .u8 (z.toNat:Int))
theorem Slb.below {w w':World}{a:Option Addr}{c cap:Nat}(h:Slb w a c cap)(hb:Below w.heap.size w w'):Slb w' a c cap:=by
 rcases h with h|⟨b,off,e,f,g,d,j⟩
 ·exact .inl h
 ·exact .inr ⟨b,off,e,f,g,Nat.lt_of_lt_of_le d hb.size,fun i hi=>by obtain⟨z,k⟩:=j i hi;exact⟨z,by rw[hb.cell (p:=⟨b,off+i,none⟩) d];exact k⟩⟩
theorem Slb.cap {w:World}{a:Option Addr}{c cap:Nat}(h:Slb w a c cap):c<=cap/\cap<=maxLen:=by
 rcases h with⟨_,e,d⟩|⟨b,off,f,e,d,_⟩
 ·exact⟨by omega,d⟩
 ·exact⟨e,d⟩
theorem Slb.take {w:World}{a:Option Addr}{c cap n:Nat}(h:Slb w a c cap)(k:n<=c):Slb w a n cap:=by
 rcases h with⟨d,f,e⟩|⟨b,off,d,f,e,g,j⟩
 ·exact .inl ⟨d,by omega,e⟩
 ·exact .inr ⟨b,off,d,by omega,e,g,fun i hi=>j i (by omega)⟩
theorem Tryz.infoByte: (Tryz.prog.info? 5).map (fun i=>(i.zero,i.size,i.bytes))=some (some (.int .u8 0),1,1):=by kernel_rfl
end Go.Proofs.YtfckcdbpiepchaaGreatDoor
