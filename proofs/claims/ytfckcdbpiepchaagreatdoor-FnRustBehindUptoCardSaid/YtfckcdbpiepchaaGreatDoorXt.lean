import Derived.Test.YtfckcdbpiepchaaGreatDoorNs00
import Derived.Test.YtfckcdbpiepchaaGreatDoorNs01
import Derived.Test.YtfckcdbpiepchaaGreatDoorNs02
import Derived.Test.YtfckcdbpiepchaaGreatDoorNs03
import Derived.Test.YtfckcdbpiepchaaGreatDoorNs04
import Derived.Test.YtfckcdbpiepchaaGreatDoorNs05
import Derived.Test.YtfckcdbpiepchaaGreatDoorNs06
import Derived.Test.YtfckcdbpiepchaaGreatDoorNs07
import Derived.Test.YtfckcdbpiepchaaGreatDoorNs08
import Derived.Test.YtfckcdbpiepchaaGreatDoorNs09
import Derived.Test.YtfckcdbpiepchaaGreatDoorNs10
import Derived.Test.YtfckcdbpiepchaaGreatDoorNs11
import Derived.Test.YtfckcdbpiepchaaGreatDoorNs12
import Derived.Test.YtfckcdbpiepchaaGreatDoorNs13
import Derived.Test.YtfckcdbpiepchaaGreatDoorNs14
import Derived.Test.YtfckcdbpiepchaaGreatDoorNs15
import Derived.Test.YtfckcdbpiepchaaGreatDoorNs16
import Derived.Test.YtfckcdbpiepchaaGreatDoorNs17
import Derived.Test.YtfckcdbpiepchaaGreatDoorNs18
import Derived.Test.YtfckcdbpiepchaaGreatDoorNs19
import Derived.Test.YtfckcdbpiepchaaGreatDoorNs20
import Derived.Test.YtfckcdbpiepchaaGreatDoorNs21
import Derived.Test.YtfckcdbpiepchaaGreatDoorNs22
import Derived.Test.YtfckcdbpiepchaaGreatDoorNs23
import Derived.Test.YtfckcdbpiepchaaGreatDoorNs24
import Derived.Test.YtfckcdbpiepchaaGreatDoorNs25
import Derived.Test.YtfckcdbpiepchaaGreatDoorNs26
import Derived.Test.YtfckcdbpiepchaaGreatDoorNs27
import Derived.Test.YtfckcdbpiepchaaGreatDoorNs28
import Derived.Test.YtfckcdbpiepchaaGreatDoorNs29
import Derived.Test.YtfckcdbpiepchaaGreatDoorNs30
import Derived.Test.YtfckcdbpiepchaaGreatDoorNs31
import Derived.Test.YtfckcdbpiepchaaGreatDoorNs32
import Derived.Test.YtfckcdbpiepchaaGreatDoorNs33
import Derived.Test.YtfckcdbpiepchaaGreatDoorNs34
import Derived.Test.YtfckcdbpiepchaaGreatDoorNs35
import Derived.Test.YtfckcdbpiepchaaGreatDoorNs36
import Derived.Test.YtfckcdbpiepchaaGreatDoorNs37
import Derived.Test.YtfckcdbpiepchaaGreatDoorNs38
namespace Go.Proofs.YtfckcdbpiepchaaGreatDoor
open Go.RowKit
set_option maxRecDepth 100000
set_option maxHeartbeats 8000000
set_option linter.all false
theorem findB_nil (u : List UInt8) : ∀ (l : List (List UInt8 × Nat)) (n : Nat), zr [] u l n = (none, n)
  | [], n => rfl
  | (b, m0) :: r, n => by
    unfold zr
    rw [if_pos rfl, findB_nil u r n]
    split <;> rfl
end Go.Proofs.YtfckcdbpiepchaaGreatDoor
