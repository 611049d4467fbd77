/- The walk of the statement on identifiers. -/
import Derived.Test.YtnmpcmhnnkddjaaI
import Derived.Laws.IdiomStrings
namespace Go.Proofs.Ytnmpcmhnnkddjaa
open Go.RowKit

/-- the byte that lies in a cell -/
def byteAt (w : World) (b i : Nat) : UInt8 := match w.cell? ⟨b, i, none⟩ with | some (.int _ z) => UInt8.ofNat z.toNat | _ => 0
theorem byteAt_eq {w : World} {b i : Nat} {z : UInt8} (h : w.cell? ⟨b, i, none⟩ = some (.int .u8 (z.toNat : Int))) : byteAt w b i = z := by
  unfold byteAt; rw [h]; simp
/-- a slice of bytes that came in, as a string -/
theorem Slb.str {w : World} {a : Option Addr} {len cap : Nat} (h : Slb w a len cap) : ∃ l : List UInt8, l.length = len ∧ ∀ w' : World, Below w.heap.size w w' → (convert 22 9 (.slice a len cap)).run Try.prog w' = .ok (.string ⟨l.toArray⟩) w' := by
  by_cases h0 : len = 0
  · subst h0
    refine ⟨[], rfl, fun w' _ => ?_⟩
    rw [run_convert_bytes_string w' 22 9 5 a 0 cap Try.underlying22 Try.underlying5 Try.underlying9]
    cases a <;> simp [Conv.bytesToString, loadCells]
    all_goals rfl
  · rcases h with ⟨_, h2, _⟩ | ⟨b, off, rfl, h2, h3, h4, h5⟩
    · omega
    · have hll : ((List.range len).map fun i => byteAt w b (off + i)).length = len := by simp
      refine ⟨(List.range len).map fun i => byteAt w b (off + i), hll, fun w' hb => ?_⟩
      have := run_convert_bytes_back w' 22 9 5 ⟨b, off, none⟩ cap ((List.range len).map fun i => byteAt w b (off + i)) Try.underlying22 Try.underlying5 Try.underlying9 (fun j hj => by
        rw [show ((⟨b, off, none⟩ : Addr).add j) = ⟨b, off + j, none⟩ from by unfold Addr.add; split <;> simp_all]
        rw [hll] at hj
        obtain ⟨z, hz⟩ := h5 j hj
        rw [hb.cell (p := ⟨b, off + j, none⟩) h4, hz]
        simp [byteAt_eq hz])
      rw [hll] at this
      exact this
theorem fnIdentifierAny_any {a : Option Addr} {len cap : Nat} (w : World) (h0 : Slb w a len cap) :
    Calls Try.prog 4 #[.slice a len cap] w fun e w' => e = .returned (.bool true) ∧ Below w.heap.size w w' := by
  obtain ⟨l, hl, hcv⟩ := h0.str
  have hcv0 := hcv w (Below.refl _ _)
  have HCV := Lib.hid hcv
  clear hcv h0
  by_cases hlen : (len : Int) > 2147483647
  · go_enter Try.func4, Try.ntmps4
    go_wp2
    go_ret
    exact ⟨rfl, Below.refl _ _⟩
  · have HL : Hid (l.length ≤ 2147483647) := by show l.length ≤ 2147483647; omega
    have hD := doorIdentifier_any l w HL.out
    obtain ⟨⟨d, t, r, s⟩, hg⟩ : ∃ y, gid l = y := ⟨_, rfl⟩
    rw [hg] at hD
    simp only [R4] at hD
    have hsay := gid_says hg
    clear hg
    by_cases s0 : s = 0
    · subst s0
      have HX := Lib.hid (hsay.1 rfl)
      clear hsay
      go_enter Try.func4, Try.ntmps4
      go_wp2_with (go_at_call 8; refine hD.mono ?_; rintro e w1 ⟨rfl, hb⟩; have hcv1 := HCV.out w1 hb; have HB1 := Lib.hid hb; clear hb hcv0)
      refine (doorIdent_ok (by have := HL.out; omega) HX).mono ?_
      rintro e w2 ⟨rfl, hb⟩
      have HB2 := Lib.hid hb
      clear hb
      go_wp2
      go_ret
      exact ⟨rfl, HB1.out.trans (HB2.out.mono HB1.out.size)⟩
    · by_cases s1 : s = 1
      · subst s1
        have HX := Lib.hid (hsay.2 rfl)
        clear hsay
        go_enter Try.func4, Try.ntmps4
        go_wp2_with (go_at_call 8; refine hD.mono ?_; rintro e w1 ⟨rfl, hb⟩; have hcv1 := HCV.out w1 hb; have HB1 := Lib.hid hb; clear hb hcv0)
        refine (identifier_bad (by have := HL.out; omega) HX).mono ?_
        rintro e w2 ⟨rfl, hb⟩
        have HB2 := Lib.hid (HB1.out.trans (hb.mono HB1.out.size))
        clear hb
        go_wp2_with (go_at_call 9; refine (doorIdent_ok (l := [49, 97]) (t := [97]) (r := []) (d := 0) (by simp) (Lib.hid one_a)).mono ?_; rintro e w3 ⟨rfl, hb⟩; have HB3 := Lib.hid hb; clear hb)
        go_ret
        exact ⟨by simp, HB2.out.trans (HB3.out.mono HB2.out.size)⟩
      · have e0 : (s == 0) = false := by simp [s0]
        have e1 : (s == 1) = false := by simp [s1]
        clear hsay s0 s1
        go_enter Try.func4, Try.ntmps4
        go_wp2_with (first | (go_at_call 8; refine hD.mono ?_; rintro e w1 ⟨rfl, hb⟩; have hcv1 := HCV.out w1 hb; have HB1 := Lib.hid hb; clear hb hcv0) | (go_at_call 9; refine (doorIdent_ok (l := [49, 97]) (t := [97]) (r := []) (d := 0) (by simp) (Lib.hid one_a)).mono ?_; rintro e w3 ⟨rfl, hb⟩; have HB3 := Lib.hid hb; clear hb))
        go_ret
        exact ⟨by simp, HB1.out.trans (HB3.out.mono HB1.out.size)⟩
end Go.Proofs.Ytnmpcmhnnkddjaa
