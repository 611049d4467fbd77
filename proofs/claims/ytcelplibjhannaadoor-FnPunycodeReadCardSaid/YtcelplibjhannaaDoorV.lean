/- Walks of identifiers, of the closures, and of the run of one part of the reader. -/
import Derived.Test.YtcelplibjhannaaDoorU
import Derived.Recover
import Derived.RegionTactic
namespace Go.Proofs.YtcelplibjhannaaDoor
open Go.RowKit

/-- an identifier with its disambiguator -/
def idN (l : List UInt8) : Option (Option (Int × List UInt8 × List UInt8)) :=
  match disN l with
  | none => some none
  | some (d, r) => (undN r).map fun y => y.map fun z => (d, z.1, z.2.2)
def IdRes (p : Nat) (w : World) (st : RS) (x : Option (Int × List UInt8 × List UInt8)) (e : Ending) (w' : World) : Prop :=
  match x with
  | some (d, t, r) => Ret p w (st.go r) (.tuple #[.int .i64 d, .string ⟨t.toArray⟩]) e w'
  | none => Fails p w e w'
theorem identifier_any {w : World} {p : Nat} {st : RS} {x : Option (Int × List UInt8 × List UInt8)} (hR : RAt w p st) (hw : st.Wf) (hx : idN st.str = some x) :
    Calls Tryd.prog 54 #[.pointer (some ⟨p, 0, none⟩)] w fun e w' => IdRes p w st x e w' := by
  unfold idN at hx
  go_enter Tryd.func54, Tryd.ntmps54
  go_wp2_with fail
  refine (disamb_any hR hw).mono ?_
  intro e w1 hn
  cases hd : disN st.str with
  | none =>
    rw [hd] at hn hx
    obtain ⟨m, o, st1, rfl, hR2, hU2⟩ := hn
    have hx2 : Hid (x = none) := (Option.some.inj hx).symm
    go_wp2
    refine ⟨rfl, ?_⟩
    rw [hx2.out]; exact ⟨m, o, st1, rfl, hR2, hU2⟩
  | some dr =>
    obtain ⟨d, r⟩ := dr
    rw [hd] at hn hx
    obtain ⟨rfl, hR1, hU1⟩ := hn
    have hle := disN_len hd
    clear hd
    simp only at hx
    cases hu : undN r with
    | none => rw [hu] at hx; cases hx
    | some y =>
      rw [hu] at hx
      have hx2 : Hid (x = y.map fun z => (d, z.1, z.2.2)) := (Option.some.inj hx).symm
      clear hx
      have hw1 := wf_go hw hle
      have HU := Lib.hid hu; clear hu
      go_wp2_with fail
      refine (und_any hR1 hw1 HU.out).mono ?_
      intro e w2 hn
      cases y with
      | none =>
        obtain ⟨m, o, st1, rfl, hR2, hU2⟩ := hn
        go_wp2
        refine ⟨rfl, ?_⟩
        rw [hx2.out]; exact ⟨m, o, st1, rfl, hR2, hU1.trans hU2⟩
      | some z =>
        obtain ⟨t, u, r2⟩ := z
        obtain ⟨rfl, hR2, hU2⟩ := hn
        rw [RS.go_go] at hR2
        go_wp2
        go_ret2
        rw [hx2.out]; exact ⟨rfl, hR2, hU1.trans hU2⟩
theorem bstring_empty {w : World} {p : Nat} {st : RS} (hR : RAt w p st) (ho : st.out = []) :
    Calls Tryd.prog 37 #[.pointer (some ⟨p, 3, none⟩)] w fun e w' => e = .returned (.string ⟨#[]⟩) ∧ w.drew = w' := by
  obtain ⟨addr, sl, hb, -, hn, -⟩ := hR
  obtain rfl := hn ho
  have hc : w.cell? ⟨p, 4, none⟩ = some (.slice none 0 0) := cells_at hb 4 (by simp [rcells])
  have h1 : ∀ w : World, (Builtin.unsafeSliceData_ #[22] 84 #[.slice none 0 0]).run Tryd.prog w = .ok (.pointer none) w := fun _ => by kernel_rfl
  have h2 : ∀ w : World, (Builtin.unsafeString_ #[84, 3] 9 #[.pointer none, .int .i64 0]).run Tryd.prog w = .ok (.string ⟨#[]⟩) w := fun _ => by kernel_rfl
  go_enter Tryd.func37, Tryd.ntmps37
  go_wp2
  go_region
  go_wp2
  go_ret
  exact ⟨rfl, rfl⟩
end Go.Proofs.YtcelplibjhannaaDoor
