/-
  FnRustBareCandidate: with NoTemplateParams, there is nothing between the brackets of generic arguments. The row and its card, for arguments of at most 1048576 values and letters together: at whatever such input the law returns true, and its arguments and the variables read as before; the listed tables are as the program's text lays them.
-/
import Derived.Test.YtfckcdbpiepchaaGreatDoorNs38
import Derived.Test.YtfckcdbpiepchaaGreatDoorXtp
import Derived.Test.YtfckcdbpiepchaaGreatDoorRows
import Derived.Test.YtfckcdbpiepchaaGreatDoorTie
import Derived.Test.YtfckcdbpiepchaaGreatDoorCards
import Derived.Test.YtfckcdbpiepchaaGreatDoorNwp
namespace Go.Proofs.YtfckcdbpiepchaaGreatDoor.fnRustBareCandidate
set_option linter.all false
open Go.ChangeShapes Go.WideShapes Go.ChangeAt Go.RowKit
open Go.ChangeMaps (open_string shut_string)
set_option linter.unusedVariables false

set_option maxRecDepth 100000 in
theorem ys2 (os : Os) {H : Type} (enc : TypeId × Value → H) :
    (Rows.OpenSpec.upto Rows.fnRustBareCandidateSpec).preRow enc Tryz.prog Tryz.f6 Rows.fnRustBareCandidateUptoRow.domain false Rows.fnRustBareCandidateUptoRow.laid ((yar os).forCall (fun _ _ => 0) ⟨#[], #[.agg #[.int .i64 0, .int .u8 0, .string ⟨#[]⟩, .int .u64 0, .bool false, .slice none 0 0], .slice none 0 0], []⟩).memory #[.agg #[.int .i64 0, .int .u8 0, .string ⟨#[]⟩, .int .u64 0, .bool false, .slice none 0 0], .slice none 0 0] := by
  have hs : (DataW.whole enc Tryz.prog ((yar os).forCall (fun _ _ => 0) ⟨#[], #[.agg #[.int .i64 0, .int .u8 0, .string ⟨#[]⟩, .int .u64 0, .bool false, .slice none 0 0], .slice none 0 0], []⟩).memory Tryz.f6.params.toList (Rows.OpenSpec.upto Rows.fnRustBareCandidateSpec).vars false (#[.agg #[.int .i64 0, .int .u8 0, .string ⟨#[]⟩, .int .u64 0, .bool false, .slice none 0 0], .slice none 0 0] : Array Value).toList 8).map (fun x => Rows.uptoSmall H (x.1 ++ x.2.1)) = some true := by kernel_rfl
  obtain ⟨x, hx, hc⟩ := Option.map_eq_some_iff.1 hs
  exact OpenSpec.preRow_of_cond 8 hx rfl (fun k hk => by cases hk; exact hc) (by kernel_rfl) (ysm os _)
set_option maxRecDepth 100000 in
theorem yyc (os : Os) (started : os.Started) (H : Type) (enc : TypeId × Value → H) (F : Stop.Interp) :
    ReturnsInHanded {} Tryz.checked os 6 .any ((Rows.OpenSpec.upto Rows.fnRustBareCandidateSpec).preRow enc Tryz.prog Tryz.f6 Rows.fnRustBareCandidateUptoRow.domain false Rows.fnRustBareCandidateUptoRow.laid) (((Rows.OpenSpec.upto Rows.fnRustBareCandidateSpec).at F).post enc Tryz.prog Tryz.f6 false true false false) := by
  refine returnsInHanded_of_row (C := Tryz.checked) (s := Rows.OpenSpec.upto Rows.fnRustBareCandidateSpec) own started (by kernel_rfl) Tryz.func6
    (witness_row_atRef (enc := enc) (C := Tryz.checked) false (yar os) #[.agg #[.int .i64 0, .int .u8 0, .string ⟨#[]⟩, .int .u64 0, .bool false, .slice none 0 0], .slice none 0 0] (yj8 os) (by kernel_rfl) (by kernel_rfl) (by kernel_rfl) (ys2 os enc)) ?_
  intro W base args ds gs before hval0 hW _ hcond _ hL _ _
  have hval : ∀ (j : Nat) t v, Tryz.f6.params[j]? = some t → args[j]? = some v → Value.okWide Tryz.prog W .any base t v := hval0
  have hsm : Rows.uptoSmall H (ds ++ gs) = true := hcond _ rfl
  have hW' := hW
  obtain ⟨p, q, hA0, hV, rfl, hfz, hnd⟩ := hW
  have hA : DataW.TrodAll enc Tryz.prog W 0 (fun _ => true) true Tryz.f6.params.toList args.toList ds p := hA0
  rw [Tryz.params6] at hA hval
  obtain ⟨v0, vs0, d0, ds0, p0, q0, hargs, rfl, rfl, h0, r0⟩ := trodAll_cons hA
  obtain ⟨v1, vs1, d1, ds1, p1, q1, rfl, rfl, rfl, h1, r1⟩ := trodAll_cons r0
  obtain ⟨rfl, rfl, rfl⟩ := trodAll_nil r1
  obtain rfl : args = #[v0, v1] := by cases args; simp_all
  have k0 := h0
  have lt0 : ∀ x ∈ p0, x.block < W.heap.size := by obtain ⟨m, hm⟩ := k0; exact DataW.trod_lt m _ _ _ hm
  obtain ⟨t0, ht0, hs0⟩ := yum h0 (yv7 hsm (by simp))
  have k1 := h1
  have lt1 : ∀ x ∈ p1, x.block < W.heap.size := by obtain ⟨m, hm⟩ := k1; exact DataW.trod_lt m _ _ _ hm
  obtain ⟨l1, hi1⟩ := yvg (hval 1 38 v1 rfl rfl) h1
  clear hA0 hval0
  obtain ⟨e0, e1, gd0, gd1, rfl⟩ : ∃ e0 e1 : Unit, ∃ gd0 gd1, gs = [gd0, gd1] := by
    obtain ⟨g0, t0, cs0, f0, dd0, p0, g1, t1, cs1, f1, dd1, p1, h, _⟩ := trodVars_two hV
    exact ⟨(), (), dd0, dd1, h⟩
  refine (barelaw_any ht0 hs0 (yzm hL) hi1).mono fun e W' ⟨he, bel⟩ => ?_
  subst he
  exact ⟨_, rfl, _, _, _, [], _, _, hW', trodAll_mk1 (shut_bool Tryz.underlying4 _), (trodAll_cons_mk (Below.trod yj9 (by kernel_rfl) (of_decide_eq_true (by kernel_rfl)) k0 bel lt0) (trodAll_cons_mk (Below.trod yj9 (by kernel_rfl) (of_decide_eq_true (by kernel_rfl)) k1 bel lt1) trodAll_mk0)), bel.trodVars yj9 (by kernel_rfl) hV, bel.frame _, fun h => by cases h⟩
end Go.Proofs.YtfckcdbpiepchaaGreatDoor.fnRustBareCandidate
