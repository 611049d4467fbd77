/- Walks of a symbol's name, of the search for a dot, and of the text that has been written. -/
import Derived.Test.YtcelplibjhannaaDoorO
import Derived.Test.YtcelplibjhannaaDoorShelf
import Derived.Lib.UnsafeStr
namespace Go.Proofs.YtcelplibjhannaaDoor
open Go.RowKit

theorem RS.setStr_self (st : RS) : { st with str := st.str } = st := rfl
/-- a symbol's name: behind its path, another path that is not told -/
theorem symbol_any {w : World} {p : Nat} {st : RS} {c : UInt8} {r : List UInt8} {y z : Option RS} (hR : RAt w p st) (hs : st.str = c :: r) (hc : isDig (c.toNat : Int) = false)
    (hin : ∀ w, RAt w p st → Calls Tryd.prog 44 #[.pointer (some ⟨p, 0, none⟩), .bool true] w fun e w' => StRes p w y e w')
    (h0 : ∀ y', y = some y' → y'.str = [] → z = some y')
    (h1 : ∀ y', y = some y' → y'.str ≠ [] → ∀ w, RAt w p { y' with skip := true } → Calls Tryd.prog 44 #[.pointer (some ⟨p, 0, none⟩), .bool false] w fun e w' => StRes p w z e w')
    (h2 : y = none → z = none) :
    Calls Tryd.prog 33 #[.pointer (some ⟨p, 0, none⟩)] w fun e w' => StRes p w z e w' := by
  have k1 := hR.str
  rw [hs] at k1
  clear hs
  have H := Lib.hid hin; have H0 := Lib.hid h0; have H1 := Lib.hid h1; have H2 := Lib.hid h2
  clear hin h0 h1 h2
  go_enter Tryd.func33, Tryd.ntmps33
  go_wp2_with (first | (go_at_call 43; refine (isDigit_any _ _).mono ?_; rintro e w' ⟨rfl, rfl⟩; rw [hc]))
  refine (H.out w hR).mono ?_
  intro e w1 hn
  cases y with
  | none =>
    obtain ⟨m, o, st1, rfl, hR1, hU1⟩ := hn
    obtain rfl := H2.out rfl
    go_wp2
    exact ⟨rfl, m, o, st1, rfl, hR1, hU1⟩
  | some y =>
    obtain ⟨rfl, hR1, hU1⟩ := hn
    have k2 := hR1.str
    by_cases hy : y.str = []
    · rw [hy] at k2
      obtain rfl := H0.out y rfl hy
      clear hy
      go_wp2
      go_end0
      exact ⟨rfl, hR1, hU1⟩
    · have hpos : 0 < y.str.length := List.length_pos_iff.2 hy
      have k3 := hR1.skip
      have f3 := hR1.free 5
      have H3 := Lib.hid (H1.out y rfl hy)
      clear hy
      go_wp2_with fail
      refine (H3.out _ (hR1.set_skip true)).mono ?_
      intro e w2 hn
      cases z with
      | none =>
        obtain ⟨m, o, st1, rfl, hR2, hU2⟩ := hn
        go_wp2
        exact ⟨rfl, m, o, st1, rfl, hR2, (hU1.set 5 _ (by omega)).trans hU2⟩
      | some z =>
        obtain ⟨rfl, hR2, hU2⟩ := hn
        go_wp2
        go_end0
        exact ⟨rfl, hR2, (hU1.set 5 _ (by omega)).trans hU2⟩
theorem zzIndex_dot (s : List UInt8) (hl : s.length ≤ 4294967296) (hd : ∀ c ∈ s, c ≠ 46) (w : World) :
    Calls Tryd.prog 30 #[.string ⟨s.toArray⟩, .string ⟨#[46]⟩] w fun e w' => e = .returned (.int .i64 (-1)) ∧ w = w' := by
  go_enter Tryd.func30, Tryd.ntmps30
  go_wp2
  go_loop [5] (fun iv => ∃ k : Nat, k ≤ s.length ∧ iv = .int .i64 k) (fun iv => s.length - (intOf iv).toNat)
  case atStart => exact ⟨0, by omega, rfl⟩
  case round =>
    obtain ⟨k, hk, rfl⟩ := hrel
    by_cases hlt : k < s.length
    · have hx : (List.drop k (List.take (k + 1) s) == [46]) = false := by
        have e : List.drop k (List.take (k + 1) s) = [s[k]] := by
          rw [List.drop_take, List.drop_eq_getElem_cons hlt, show k + 1 - k = 1 by omega]; rfl
        rw [e]
        have := hd s[k] (List.getElem_mem hlt)
        simp [this]
      go_wp2
      go_round
      case rel => exact ⟨k + 1, by omega, by go_num⟩
      case measure => simp [intOf]; omega
    · obtain rfl : k = s.length := by omega
      go_wp2
      go_ret
      exact ⟨rfl, rfl⟩
set_option maxHeartbeats 1000000 in
set_option maxRecDepth 100000 in
theorem bstring_full {w : World} {p : Nat} {st : RS} (hR : RAt w p st) (h0 : st.out ≠ []) :
    Calls Tryd.prog 37 #[.pointer (some ⟨p, 3, none⟩)] w fun e w' => e = .returned (.string ⟨st.out.toArray⟩) ∧ Upd p w w' ∧ w'.heap[p]? = w.heap[p]? := by
  obtain ⟨addr, sl, hb, -, -, hown⟩ := hR
  have hl0 : st.out.length ≠ 0 := by simpa using h0
  obtain ⟨g, cap, cur, rfl, hbg, hg, hnc, hcm, hcs, htake⟩ : ∃ g cap cur, sl = .slice (some ⟨g, 0, none⟩) st.out.length cap ∧ p + 1 ≤ g ∧ w.heap[g]? = some (.cells cur 5 (0, 0)) ∧ st.out.length ≤ cap ∧ cap ≤ maxLen ∧ cur.size = cap * 1 ∧ cur.toList.take (st.out.length * 1) = byts st.out := by
    rcases hown.2 with ⟨_, hz⟩ | ⟨g, cap, cur, hv, r⟩
    · exact absurd hz hl0
    · exact ⟨g, cap, cur, hv, r⟩
  have c1 : w.drew.cell? ⟨p, 4, none⟩ = some (.slice (some ⟨g, 0, none⟩) st.out.length cap) := cells_at (w := w.drew) hb 4 (by simp [rcells])
  have c2 : w.cell? ⟨p, 4, none⟩ = some (.slice (some ⟨g, 0, none⟩) st.out.length cap) := cells_at hb 4 (by simp [rcells])
  have hSD : (Builtin.unsafeSliceData_ #[22] 84 #[.slice (some ⟨g, 0, none⟩) st.out.length cap]).run Tryd.prog w.drew = .ok (.pointer (some ⟨g, 0, none⟩)) w.drew :=
    Lib.run_unsafeSliceData_row _ _ _ _ _ _ (by omega)
  have hUS : (Builtin.unsafeString_ #[84, 3] 9 #[.pointer (some ⟨g, 0, none⟩), .int .i64 st.out.length]).run Tryd.prog w.drew = .ok (.string ⟨st.out.toArray⟩) (w.drew.freeze ⟨g, 0, none⟩ st.out.length) := by
    refine Lib.run_unsafeString_row w.drew 84 3 9 5 (by kernel_rfl) (by kernel_rfl) g cur.size (by have hg' : w.drew.heap[g]? = some (.cells cur 5 (0, 0)) := hg; simp [World.shape?, hg']) st.out h0 (by omega) (by unfold maxLen at hcm; omega) ?_
    intro j x hx
    have := hown.cells (g := g) rfl j (.int .u8 x.toNat) (by simp [byts, hx])
    exact this
  have hU : Upd p w (w.drew.freeze ⟨g, 0, none⟩ st.out.length) ∧ (w.drew.freeze ⟨g, 0, none⟩ st.out.length).heap[p]? = w.heap[p]? := by
    have hb1 : bufOf w p = some g := by unfold bufOf; rw [hb]; rfl
    have hk : ∀ k, k ≠ g → (w.drew.freeze ⟨g, 0, none⟩ st.out.length).heap[k]? = w.heap[k]? := fun k hk => by
      unfold World.freeze; split
      · rfl
      · simp only [Array.getElem?_modify]; rw [if_neg (by simpa using fun h => hk h.symm)]; rfl
    have hb2 : bufOf (w.drew.freeze ⟨g, 0, none⟩ st.out.length) p = some g := by rw [← hb1]; unfold bufOf; rw [hk p (by omega)]
    have hos : (w.drew.freeze ⟨g, 0, none⟩ st.out.length).os = w.os ∧ (w.drew.freeze ⟨g, 0, none⟩ st.out.length).tape = w.tape ∧ (w.drew.freeze ⟨g, 0, none⟩ st.out.length).output = w.output ∧ w.heap.size ≤ (w.drew.freeze ⟨g, 0, none⟩ st.out.length).heap.size := by
      unfold World.freeze; split
      · exact ⟨rfl, rfl, rfl, Nat.le_refl _⟩
      · exact ⟨rfl, rfl, rfl, by simp⟩
    refine ⟨?_, hk p (by omega)⟩
    exact ⟨hos.1, hos.2.1, hos.2.2.1, hos.2.2.2, fun k h1 h2 h3 => hk k (fun h => h3 (by rw [hb1, h])), fun k hk => .inl (by rw [hb1, ← hb2]; exact hk)⟩
  clear hown htake hg
  go_enter Tryd.func37, Tryd.ntmps37
  go_wp2
  go_region
  all_goals (go_wp2; go_ret; exact ⟨rfl, hU⟩)
end Go.Proofs.YtcelplibjhannaaDoor
