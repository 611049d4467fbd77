/- Walks of the reader's first methods. -/
import Derived.Test.YtcelplibjhannaaDoorR
namespace Go.Proofs.YtcelplibjhannaaDoor
open Go.RowKit

theorem advance_any {w : World} {p : Nat} {st : RS} {n : Int} (hR : RAt w p st) (hw : st.Wf) (h0 : 0 ≤ n) (h1 : n ≤ st.str.length) :
    Calls Tryd.prog 53 #[.pointer (some ⟨p, 0, none⟩), .int .i64 n] w fun e w' => Ret p w (st.go (st.str.drop n.toNat)) (.tuple #[]) e w' := by
  have hs := hR.str
  have ho := hR.off
  have f1 := hR.free 1
  have f2 := hR.free 2
  obtain ⟨o0, o1⟩ := hw
  have hlt : decide ((st.str.length : Int) < n) = false := by simp; omega
  go_enter Tryd.func53, Tryd.ntmps53
  go_wp2
  go_end0
  refine ⟨rfl, ?_, ((Upd.refl p w).set 1 _ (by omega)).set 2 _ (by omega)⟩
  have := (hR.set_str (st.str.drop n.toNat)).set_off (st.off + n)
  have e : st.go (st.str.drop n.toNat) = { st with str := st.str.drop n.toNat, off := st.off + n } := by
    simp only [RS.go, RS.mk.injEq, true_and, and_true, List.length_drop]; omega
  rw [e]; exact this
theorem advance1 {w : World} {p : Nat} {st : RS} {c : UInt8} {r : List UInt8} (hR : RAt w p st) (hw : st.Wf) (hc : Hid (st.str = c :: r)) :
    Calls Tryd.prog 53 #[.pointer (some ⟨p, 0, none⟩), .int .i64 1] w fun e w' => Ret p w (st.go r) (.tuple #[]) e w' :=
  (advance_any hR hw (by omega) (by rw [hc.out]; simp only [List.length_cons]; omega)).mono fun e w' h => by rw [hc.out] at h; exact h
theorem wf_go {st : RS} {r : List UInt8} (hw : st.Wf) (h : r.length ≤ st.str.length) : (st.go r).Wf := by
  obtain ⟨o0, o1⟩ := hw
  exact ⟨by simp only [RS.go]; omega, by simp only [RS.go]; omega⟩
theorem fail_any {w : World} {p : Nat} {st : RS} {m : ByteArray} (hR : RAt w p st) :
    Calls Tryd.prog 34 #[.pointer (some ⟨p, 0, none⟩), .string m] w fun e w' => Fails p w e w' := by
  have ho := hR.off
  go_enter Tryd.func34, Tryd.ntmps34
  go_wp2
  exact ⟨rfl, m, st.off, st, rfl, hR, Upd.refl p w⟩
/-- what a reader of a number hands back -/
def NumRes (p : Nat) (w : World) (st : RS) (x : Option (Int × List UInt8)) (e : Ending) (w' : World) : Prop :=
  match x with
  | some (v, r) => Ret p w (st.go r) (.int .i64 v) e w'
  | none => Fails p w e w'
set_option maxHeartbeats 1000000 in
theorem base62_any {w : World} {p : Nat} {st : RS} (hR : RAt w p st) (hw : st.Wf) :
    Calls Tryd.prog 70 #[.pointer (some ⟨p, 0, none⟩)] w fun e w' => NumRes p w st (b62 st.str) e w' := by
  generalize hX : b62 st.str = X
  unfold b62 at hX
  by_cases h1 : st.str.head? = some 95
  · rw [if_pos h1] at hX
    subst hX
    have hs := hR.str
    obtain ⟨c, r, hcr⟩ : ∃ c r, st.str = c :: r := by cases h : st.str with
      | nil => rw [h] at h1; cases h1
      | cons c r => exact ⟨c, r, rfl⟩
    rw [hcr] at h1
    obtain rfl : c = 95 := by simpa using h1
    rw [hcr] at hs ⊢
    clear h1
    have HC := Lib.hid hcr
    clear hcr
    go_enter Tryd.func70, Tryd.ntmps70
    go_wp2_with (go_at_call 53; refine (advance1 hR hw HC).mono ?_; rintro e w1 ⟨rfl, hR1, hU1⟩)
    go_ret
    exact ⟨rfl, hR1, hU1⟩
  · rw [if_neg h1] at hX
    have HX := Lib.hid hX; clear hX
    have hs := hR.str
    have hne : Hid (st.str = [] ∨ ∃ c r, st.str = c :: r ∧ ((c.toNat : Int) == 95) = false) := by
      cases h : st.str with
      | nil => exact .inl rfl
      | cons c r => refine .inr ⟨c, r, rfl, ?_⟩; rw [h] at h1; simp at h1; simp; exact fun h2 => h1 ((c95 c).1 h2)
    clear h1
    rcases hne.out with h2 | ⟨c, r, h2, h3⟩
    all_goals
      rw [h2] at hs
      have H2 := Lib.hid h2; clear h2 hne
      go_enter Tryd.func70, Tryd.ntmps70
      go_wp2
      clear hs H2
      try clear h3
      go_loopg [3] st.str.length (fun gk vv wr => ∃ (v : Int) (l : List UInt8), Hid (l.length = gk) ∧ vv = .int .i64 v ∧ RAt wr p (st.go l) ∧ (st.go l).Wf ∧ Hid (p62 l v = X) ∧ Upd p w wr ∧ l.length ≤ st.str.length)
      case atStart => exact ⟨0, st.str, rfl, rfl, by rw [RS.go_self]; exact hR, by rw [RS.go_self]; exact hw, HX.out, Upd.refl p w, Nat.le_refl _⟩
      case round =>
        clear hR HX
        obtain ⟨v, l, hgk, rfl, hR, hw2, hx, hU, hle⟩ := hrel
        cases l with
        | nil =>
          have hs : wr.cell? ⟨p, 1, none⟩ = some (.string ⟨#[]⟩) := hR.str
          go_wp2_with (go_at_call 34; refine (fail_any hR).mono ?_; rintro e w1 ⟨m, o, st1, rfl, hR1, hU1⟩)
          have hn : X = none := by rw [← hx.out]; rfl
          refine ⟨rfl, ?_⟩
          rw [hn]; exact ⟨m, o, st1, rfl, hR1, hU.trans hU1⟩
        | cons c r =>
          have hs : wr.cell? ⟨p, 1, none⟩ = some (.string ⟨(c :: r).toArray⟩) := hR.str
          have HC : Hid ((st.go (c :: r)).str = c :: r) := rfl
          have hcb : (c.toNat : Int) ≤ 255 := by have := c.toNat_lt; omega
          have hxx := hx.out; clear hx
          unfold p62 at hxx
          by_cases c1 : (c.toNat : Int) = 95
          · rw [if_pos c1] at hxx
            have HX := Lib.hid hxx; clear hxx
            go_wp2_with (go_at_call 53; refine (advance1 hR hw2 HC).mono ?_; rintro e w1 ⟨rfl, hR1, hU1⟩)
            go_ret
            rw [← HX.out]; rw [RS.go_go] at hR1; exact ⟨rfl, hR1, hU.trans hU1⟩
          · rw [if_neg c1] at hxx
            have c1b : ((c.toNat : Int) == 95) = false := by simp; exact c1
            by_cases c2 : d62 c.toNat < 0
            · rw [if_pos c2] at hxx
              have HX := Lib.hid hxx; clear hxx
              have HD := Lib.hid (d62_out c2)
              clear c2
              go_wp2_with (first | (go_at_call 53; refine (advance1 hR hw2 HC).mono ?_; rintro e w1 ⟨rfl, hR1, hU1⟩) | (go_at_call 34; refine (fail_any hR1).mono ?_; rintro e w2 ⟨m, o, st1, rfl, hR2, hU2⟩))
              all_goals first
                | (exfalso; have := HD.out; omega)
                | (refine ⟨rfl, ?_⟩
                   rw [← HX.out]; exact ⟨m, o, st1, rfl, hR2, (hU.trans hU1).trans hU2⟩)
            · rw [if_neg c2] at hxx
              have hd : d62 c.toNat = (if 48 ≤ (c.toNat : Int) ∧ (c.toNat : Int) ≤ 57 then (c.toNat : Int) - 48 else if 97 ≤ (c.toNat : Int) ∧ (c.toNat : Int) ≤ 122 then (c.toNat : Int) - 97 + 10 else if 65 ≤ (c.toNat : Int) ∧ (c.toNat : Int) ≤ 90 then (c.toNat : Int) - 65 + 36 else -1) := rfl
              have HD := Lib.hid hd
              have HX := Lib.hid hxx
              have C2 := Lib.hid (d62_in c2)
              clear hd hxx c2
              go_wp2_with (first | (go_at_call 53; refine (advance1 hR hw2 HC).mono ?_; rintro e w1 ⟨rfl, hR1, hU1⟩))
              all_goals first
                | (exfalso; have := C2.out; omega)
                | (have hq : Hid (p62 r (wrap64 (wrap64 (v * 62) + d62 c.toNat)) = X) := HX
                   have hn : Hid (r.length + 1 ≤ st.str.length) := hle
                   rw [RS.go_go] at hR1
                   go_roundg r.length
                   case measure => have := hgk.out; simp at this; omega
                   case rel => exact ⟨_, r, rfl, rfl, hR1, wf_go hw (by have := hn.out; omega), by have h := hq.out; first | (rw [HD.out, if_pos ⟨by omega, by omega⟩] at h; exact h) | (rw [HD.out, if_neg (by omega), if_pos ⟨by omega, by omega⟩] at h; exact h) | (rw [HD.out, if_neg (by omega), if_neg (by omega), if_pos ⟨by omega, by omega⟩] at h; exact h), hU.trans hU1, by have := hn.out; omega⟩)
end Go.Proofs.YtcelplibjhannaaDoor
