/-
  FnRustBehind: the path of the crate that asked for the code, behind the name, is not told. The row and its card, for arguments of at most 1048576 values and letters together: at whatever such input the law returns true, and its arguments and the variables read as before; the listed tables are as the program's text lays them.
-/
import Derived.Test.YtfckcdbpiepchaaGreatDoorNs00
import Derived.Test.YtfckcdbpiepchaaGreatDoorNs01
import Derived.Test.YtfckcdbpiepchaaGreatDoorNs02
import Derived.Test.YtfckcdbpiepchaaGreatDoorNs03
import Derived.Test.YtfckcdbpiepchaaGreatDoorNs04
import Derived.Test.YtfckcdbpiepchaaGreatDoorNs05
import Derived.Test.YtfckcdbpiepchaaGreatDoorNs06
import Derived.Test.YtfckcdbpiepchaaGreatDoorNs07
import Derived.Test.YtfckcdbpiepchaaGreatDoorNs08
import Derived.Test.YtfckcdbpiepchaaGreatDoorNs09
import Derived.Test.YtfckcdbpiepchaaGreatDoorNs10
import Derived.Test.YtfckcdbpiepchaaGreatDoorNs11
import Derived.Test.YtfckcdbpiepchaaGreatDoorNs12
import Derived.Test.YtfckcdbpiepchaaGreatDoorNs13
import Derived.Test.YtfckcdbpiepchaaGreatDoorNs14
import Derived.Test.YtfckcdbpiepchaaGreatDoorNs15
import Derived.Test.YtfckcdbpiepchaaGreatDoorNs16
import Derived.Test.YtfckcdbpiepchaaGreatDoorNs17
import Derived.Test.YtfckcdbpiepchaaGreatDoorNs18
import Derived.Test.YtfckcdbpiepchaaGreatDoorNs19
import Derived.Test.YtfckcdbpiepchaaGreatDoorNs20
import Derived.Test.YtfckcdbpiepchaaGreatDoorNs21
import Derived.Test.YtfckcdbpiepchaaGreatDoorNs22
import Derived.Test.YtfckcdbpiepchaaGreatDoorNs23
import Derived.Test.YtfckcdbpiepchaaGreatDoorNs24
import Derived.Test.YtfckcdbpiepchaaGreatDoorNs25
import Derived.Test.YtfckcdbpiepchaaGreatDoorNs26
import Derived.Test.YtfckcdbpiepchaaGreatDoorNs27
import Derived.Test.YtfckcdbpiepchaaGreatDoorNs28
import Derived.Test.YtfckcdbpiepchaaGreatDoorNs29
import Derived.Test.YtfckcdbpiepchaaGreatDoorNs30
import Derived.Test.YtfckcdbpiepchaaGreatDoorNs31
import Derived.Test.YtfckcdbpiepchaaGreatDoorNs32
import Derived.Test.YtfckcdbpiepchaaGreatDoorNs33
import Derived.Test.YtfckcdbpiepchaaGreatDoorNs34
import Derived.Test.YtfckcdbpiepchaaGreatDoorNs35
import Derived.Test.YtfckcdbpiepchaaGreatDoorNs36
import Derived.Test.YtfckcdbpiepchaaGreatDoorNs37
import Derived.Test.YtfckcdbpiepchaaGreatDoorNs38
import Derived.Test.YtfckcdbpiepchaaGreatDoorXt
import Derived.Test.YtfckcdbpiepchaaGreatDoorRows
import Derived.Test.YtfckcdbpiepchaaGreatDoorTie
import Derived.Test.YtfckcdbpiepchaaGreatDoorCards
import Derived.Test.YtfckcdbpiepchaaGreatDoorNr
namespace Go.Proofs.YtfckcdbpiepchaaGreatDoor.fnRustBehind
set_option linter.all false
open Go.ChangeShapes Go.WideShapes Go.ChangeAt Go.RowKit
open Go.ChangeMaps (open_string shut_string)
set_option linter.unusedVariables false

set_option maxRecDepth 100000 in
/-- an input that fits -/
theorem ys2 (os : Os) {H : Type} (enc : TypeId × Value → H) :
    (Rows.OpenSpec.upto Rows.fnRustBehindSpec).preRow enc Tryz.prog Tryz.f7 Rows.fnRustBehindUptoRow.domain false Rows.fnRustBehindUptoRow.laid ((yar os).forCall (fun _ _ => 0) ⟨#[], #[.agg #[.int .i64 0, .int .u8 0, .string ⟨#[]⟩, .int .u64 0, .bool false, .slice none 0 0], .agg #[.int .i64 0, .int .u8 0, .string ⟨#[]⟩, .int .u64 0, .bool false, .slice none 0 0], .slice none 0 0], []⟩).memory #[.agg #[.int .i64 0, .int .u8 0, .string ⟨#[]⟩, .int .u64 0, .bool false, .slice none 0 0], .agg #[.int .i64 0, .int .u8 0, .string ⟨#[]⟩, .int .u64 0, .bool false, .slice none 0 0], .slice none 0 0] := by
  have hs : (DataW.whole enc Tryz.prog ((yar os).forCall (fun _ _ => 0) ⟨#[], #[.agg #[.int .i64 0, .int .u8 0, .string ⟨#[]⟩, .int .u64 0, .bool false, .slice none 0 0], .agg #[.int .i64 0, .int .u8 0, .string ⟨#[]⟩, .int .u64 0, .bool false, .slice none 0 0], .slice none 0 0], []⟩).memory Tryz.f7.params.toList (Rows.OpenSpec.upto Rows.fnRustBehindSpec).vars false (#[.agg #[.int .i64 0, .int .u8 0, .string ⟨#[]⟩, .int .u64 0, .bool false, .slice none 0 0], .agg #[.int .i64 0, .int .u8 0, .string ⟨#[]⟩, .int .u64 0, .bool false, .slice none 0 0], .slice none 0 0] : Array Value).toList 8).map (fun x => Rows.uptoSmall H (x.1 ++ x.2.1)) = some true := by kernel_rfl
  obtain ⟨x, hx, hc⟩ := Option.map_eq_some_iff.1 hs
  exact OpenSpec.preRow_of_cond 8 hx rfl (fun k hk => by cases hk; exact hc) (by kernel_rfl) (ysm os _)
set_option maxRecDepth 100000 in
theorem yyc (os : Os) (started : os.Started) (H : Type) (enc : TypeId × Value → H) (F : Stop.Interp) :
    ReturnsInHanded {} Tryz.checked os 7 .any ((Rows.OpenSpec.upto Rows.fnRustBehindSpec).preRow enc Tryz.prog Tryz.f7 Rows.fnRustBehindUptoRow.domain false Rows.fnRustBehindUptoRow.laid) (((Rows.OpenSpec.upto Rows.fnRustBehindSpec).at F).post enc Tryz.prog Tryz.f7 false true false false) := by
  refine returnsInHanded_of_row (C := Tryz.checked) (s := Rows.OpenSpec.upto Rows.fnRustBehindSpec) own started (by kernel_rfl) Tryz.func7
    (witness_row_atRef (enc := enc) (C := Tryz.checked) false (yar os) #[.agg #[.int .i64 0, .int .u8 0, .string ⟨#[]⟩, .int .u64 0, .bool false, .slice none 0 0], .agg #[.int .i64 0, .int .u8 0, .string ⟨#[]⟩, .int .u64 0, .bool false, .slice none 0 0], .slice none 0 0] (yj8 os) (by kernel_rfl) (by kernel_rfl) (by kernel_rfl) (ys2 os enc)) ?_
  intro W base args ds gs before hval0 hW _ hcond _ hL _ _
  have hval : ∀ (j : Nat) t v, Tryz.f7.params[j]? = some t → args[j]? = some v → Value.okWide Tryz.prog W .any base t v := hval0
  have hsm : Rows.uptoSmall H (ds ++ gs) = true := hcond _ rfl
  have hW' := hW
  obtain ⟨p, q, hA0, hV, rfl, hfz, hnd⟩ := hW
  have hA : DataW.TrodAll enc Tryz.prog W 0 (fun _ => true) true Tryz.f7.params.toList args.toList ds p := hA0
  rw [Tryz.params7] at hA hval
  obtain ⟨v0, vs0, d0, ds0, p0, q0, hargs, rfl, rfl, h0, r0⟩ := trodAll_cons hA
  obtain ⟨v1, vs1, d1, ds1, p1, q1, rfl, rfl, rfl, h1, r1⟩ := trodAll_cons r0
  obtain ⟨v2, vs2, d2, ds2, p2, q2, rfl, rfl, rfl, h2, r2⟩ := trodAll_cons r1
  obtain ⟨rfl, rfl, rfl⟩ := trodAll_nil r2
  obtain rfl : args = #[v0, v1, v2] := by cases args; simp_all
  have k0 := h0
  have lt0 : ∀ x ∈ p0, x.block < W.heap.size := by obtain ⟨m, hm⟩ := k0; exact DataW.trod_lt m _ _ _ hm
  obtain ⟨t0, ht0, hs0⟩ := yum h0 (yv7 hsm (by simp))
  have k1 := h1
  have lt1 : ∀ x ∈ p1, x.block < W.heap.size := by obtain ⟨m, hm⟩ := k1; exact DataW.trod_lt m _ _ _ hm
  obtain ⟨t1, ht1, hs1⟩ := yum h1 (yv7 hsm (by simp))
  have k2 := h2
  have lt2 : ∀ x ∈ p2, x.block < W.heap.size := by obtain ⟨m, hm⟩ := k2; exact DataW.trod_lt m _ _ _ hm
  obtain ⟨l2, hi2⟩ := yvg (hval 2 38 v2 rfl rfl) h2
  clear hA0 hval0
  obtain ⟨e0, e1, gd0, gd1, rfl⟩ : ∃ e0 e1 : Unit, ∃ gd0 gd1, gs = [gd0, gd1] := by
    obtain ⟨g0, t0, cs0, f0, dd0, p0, g1, t1, cs1, f1, dd1, p1, h, _⟩ := trodVars_two hV
    exact ⟨(), (), dd0, dd1, h⟩
  refine (behind_any ht0 hs0 ht1 hs1 (yzm hL) hi2).mono fun e W' ⟨he, bel⟩ => ?_
  subst he
  exact ⟨_, rfl, _, _, _, [], _, _, hW', trodAll_mk1 (shut_bool Tryz.underlying4 _), (trodAll_cons_mk (Below.trod yj9 (by kernel_rfl) (of_decide_eq_true (by kernel_rfl)) k0 bel lt0) (trodAll_cons_mk (Below.trod yj9 (by kernel_rfl) (of_decide_eq_true (by kernel_rfl)) k1 bel lt1) (trodAll_cons_mk (Below.trod yj9 (by kernel_rfl) (of_decide_eq_true (by kernel_rfl)) k2 bel lt2) trodAll_mk0))), bel.trodVars yj9 (by kernel_rfl) hV, bel.frame _, fun h => by cases h⟩
end Go.Proofs.YtfckcdbpiepchaaGreatDoor.fnRustBehind
