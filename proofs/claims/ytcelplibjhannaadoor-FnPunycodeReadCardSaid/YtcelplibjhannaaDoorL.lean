/- The walks of the reader's writing. -/
import Derived.Test.YtcelplibjhannaaDoorK
import Derived.BigQuiet
namespace Go.Proofs.YtcelplibjhannaaDoor
open Go.RowKit

/-- the state when a text has been written -/
def RS.wr (st : RS) (s : List UInt8) : RS :=
  if st.skip = true then st
  else if 0 < st.max ∧ st.max < st.out.length then { st with skip := true }
  else if s = [] then st
  else { st with out := st.out ++ s, last := ((s.getLast?.getD 0).toNat : Int) }
theorem bLen_any {w : World} {p : Nat} {st : RS} (hR : RAt w p st) :
    Calls Tryd.prog 45 #[.pointer (some ⟨p, 3, none⟩)] w fun e w' => e = .returned (.int .i64 st.out.length) ∧ w = w' := by
  obtain ⟨addr, sl, hb, ha, hn, ho⟩ := hR
  have c4 : w.cell? ⟨p, 4, none⟩ = some sl := cells_at hb 4 (by simp [rcells])
  obtain ⟨ao, cap, rfl⟩ : ∃ ao cap, sl = .slice ao st.out.length cap := by
    rcases ho.2 with ⟨hv, h0⟩ | ⟨g, cap, cur, hv, _⟩
    · exact ⟨none, 0, by rw [hv, h0]⟩
    · exact ⟨_, _, hv⟩
  clear hb hn ho
  go_enter Tryd.func45, Tryd.ntmps45
  go_wp2
  go_ret
  exact ⟨rfl, rfl⟩
theorem RAt.drewN' {w : World} {p : Nat} {st : RS} (h : RAt w p st) (n : Nat) : RAt (w.drewN n) p st := h
theorem Upd.drewN {p : Nat} {a w : World} (h : Upd p a w) (n : Nat) : Upd p a (w.drewN n) := ⟨h.os, h.tape, h.output, h.size, h.block, h.buf⟩
theorem bLen_q {w : World} {p : Nat} {st : RS} (hR : RAt w p st) (n : Nat) :
    Calls Tryd.prog 45 #[.pointer (some ⟨p, 3, none⟩)] (w.drewN n) fun e w' => e = .returned (.int .i64 st.out.length) ∧ w' = w.drewN n :=
  (bLen_any (hR.drewN' n)).mono fun _ _ h => ⟨h.1, h.2.symm⟩
theorem last_at {s : List UInt8} (h : s ≠ []) (hl : s.length - 1 < s.length) : s[s.length - 1] = s.getLast?.getD 0 := by
  rw [List.getLast?_eq_getElem?, List.getElem?_eq_getElem hl]; rfl
set_option maxHeartbeats 1000000 in
theorem writeString_any {w : World} {p : Nat} {st : RS} {s : List UInt8} (hR : RAt w p st) (hl : st.out.length + s.length ≤ 70368744177664) :
    Calls Tryd.prog 35 #[.pointer (some ⟨p, 0, none⟩), .string ⟨s.toArray⟩] w fun e w' => Ret p w (st.wr s) (.tuple #[]) e w' := by
  have hs := hR.skip
  have hm := hR.max
  have hla := hR.last
  have f5 := hR.free 5
  have f7 := hR.free 7
  by_cases h1 : st.skip = true
  · have hx : st.wr s = st := by unfold RS.wr; rw [if_pos h1]
    rw [hx]
    rw [h1] at hs
    go_enter Tryd.func35, Tryd.ntmps35
    go_wp2
    go_end0
    exact ⟨rfl, hR, Upd.refl p w⟩
  · have h1' : st.skip = false := by simpa using h1
    rw [h1'] at hs
    clear h1
    have hlen := bLen_q hR
    by_cases h4 : 0 < st.max ∧ st.max < st.out.length
    · have hx : st.wr s = { st with skip := true } := by unfold RS.wr; rw [if_neg (by rw [h1']; simp), if_pos h4]
      rw [hx]
      have h2' : decide (0 < st.max) = true := by simpa using h4.1
      have h4' : decide (st.max < (st.out.length : Int)) = true := by simpa using h4.2
      clear h4
      go_enter Tryd.func35, Tryd.ntmps35
      go_wp2
      go_quiet (first | (go_at_call 45; refine Calls.quiet_of_same (hlen _)))
      go_wp2
      go_end0
      exact ⟨rfl, (hR.drewN' _).set_skip true, ((Upd.refl p w).drewN _).set 5 _ (by omega)⟩
    · have hcond : (decide (0 < st.max) = false ∨ decide (0 < st.max) = true ∧ decide (st.max < (st.out.length : Int)) = false) := by
        simp only [decide_eq_false_iff_not, decide_eq_true_eq]; omega
      by_cases h3 : s = []
      · have hx : st.wr s = st := by unfold RS.wr; rw [if_neg (by rw [h1']; simp), if_neg h4, if_pos h3]
        rw [hx]
        subst h3
        clear h4
        rcases hcond with h2' | ⟨h2', h4'⟩
        all_goals
          go_enter Tryd.func35, Tryd.ntmps35
          go_wp2
          go_quiet (first | (go_at_call 45; refine Calls.quiet_of_same (hlen _)))
          go_wp2
          go_end0
          exact ⟨rfl, hR.drewN' _, (Upd.refl p w).drewN _⟩
      · have hx : st.wr s = { st with out := st.out ++ s, last := ((s.getLast?.getD 0).toNat : Int) } := by unfold RS.wr; rw [if_neg (by rw [h1']; simp), if_neg h4, if_neg h3]
        rw [hx]
        have hpos : 0 < s.length := List.length_pos_iff.2 h3
        have hat := fun h => last_at h3 h
        clear h4 h3
        rcases hcond with h2' | ⟨h2', h4'⟩
        all_goals
          go_enter Tryd.func35, Tryd.ntmps35
          go_wp2
          go_quiet (first | (go_at_call 45; refine Calls.quiet_of_same (hlen _)))
          go_wp2_with (go_at_call 46; refine (bWrite_any ((hR.drewN' _).set_last ((s.getLast?.getD 0).toNat : Int)) hl).mono ?_; rintro e w1 ⟨⟨n, rfl⟩, hR1, hU1⟩)
          go_end0
          exact ⟨rfl, hR1, (((Upd.refl p w).drewN _).set 7 _ (by omega)).trans hU1⟩
end Go.Proofs.YtcelplibjhannaaDoor
