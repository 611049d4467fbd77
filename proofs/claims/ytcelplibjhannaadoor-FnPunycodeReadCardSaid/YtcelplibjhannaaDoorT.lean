/- Walks of the reader of decimal numbers and of disambiguators. -/
import Derived.Test.YtcelplibjhannaaDoorS
namespace Go.Proofs.YtcelplibjhannaaDoor
open Go.RowKit

theorem isDigit_any (c : Int) (w : World) :
    Calls Tryd.prog 43 #[.int .u8 c] w fun e w' => e = .returned (.bool (isDig c)) ∧ w = w' := by
  by_cases h1 : 48 ≤ c
  all_goals
    go_enter Tryd.func43, Tryd.ntmps43
    go_wp2
    go_ret
    exact ⟨by simp [isDig]; omega, rfl⟩
set_option maxHeartbeats 1000000 in
theorem decimal_any {w : World} {p : Nat} {st : RS} (hR : RAt w p st) (hw : st.Wf) :
    Calls Tryd.prog 78 #[.pointer (some ⟨p, 0, none⟩)] w fun e w' => NumRes p w st (decN st.str) e w' := by
  generalize hX : decN st.str = X
  unfold decN at hX
  by_cases h1 : st.str = []
  · have hs : w.cell? ⟨p, 1, none⟩ = some (.string ⟨#[]⟩) := by have := hR.str; rw [h1] at this; exact this
    rw [if_pos h1] at hX
    clear h1
    go_enter Tryd.func78, Tryd.ntmps78
    go_wp2_with (go_at_call 34; refine (fail_any hR).mono ?_; rintro e w1 ⟨m, o, st1, rfl, hR1, hU1⟩)
    refine ⟨rfl, ?_⟩
    rw [← hX]; exact ⟨m, o, st1, rfl, hR1, hU1⟩
  · rw [if_neg h1] at hX
    have HX := Lib.hid hX; clear hX
    obtain ⟨c0, r0, h2⟩ : ∃ c r, st.str = c :: r := by cases h : st.str with
      | nil => exact absurd h h1
      | cons c r => exact ⟨c, r, rfl⟩
    have hs : w.cell? ⟨p, 1, none⟩ = some (.string ⟨(c0 :: r0).toArray⟩) := by have := hR.str; rw [h2] at this; exact this
    clear h1 h2
    go_enter Tryd.func78, Tryd.ntmps78
    go_wp2
    clear hs
    go_loopg [3] st.str.length (fun gk vv wr => ∃ (v : Int) (l : List UInt8), Hid (l.length = gk) ∧ vv = .int .i64 v ∧ RAt wr p (st.go l) ∧ (st.go l).Wf ∧ Hid (pdec l v = X) ∧ Upd p w wr ∧ l.length ≤ st.str.length ∧ 0 ≤ v ∧ v ≤ 2147483648)
    case atStart => exact ⟨0, st.str, rfl, rfl, by rw [RS.go_self]; exact hR, by rw [RS.go_self]; exact hw, HX.out, Upd.refl p w, Nat.le_refl _, by omega, by omega⟩
    case round =>
      clear hR HX
      obtain ⟨v, l, hgk, rfl, hR, hw2, hx, hU, hle, v0, v1⟩ := hrel
      cases l with
      | nil =>
        have hs : wr.cell? ⟨p, 1, none⟩ = some (.string ⟨#[]⟩) := hR.str
        go_wp2
        go_ret
        rw [← hx.out]; exact ⟨rfl, hR, hU⟩
      | cons c r =>
        have hs : wr.cell? ⟨p, 1, none⟩ = some (.string ⟨(c :: r).toArray⟩) := hR.str
        have HC : Hid ((st.go (c :: r)).str = c :: r) := rfl
        have hcb : (c.toNat : Int) ≤ 255 := by have := c.toNat_lt; omega
        have hxx := hx.out; clear hx
        unfold pdec at hxx
        by_cases c1 : isDig (c.toNat : Int) = true
        · rw [if_pos c1] at hxx
          have hd : 48 ≤ (c.toNat : Int) ∧ (c.toNat : Int) ≤ 57 := by simpa [isDig] using c1
          obtain ⟨d1, d2⟩ := hd
          have C1 := Lib.hid c1; clear c1
          by_cases c2 : v ≥ 214748364 - ((c.toNat : Int) - 48)
          · rw [if_pos c2] at hxx
            have HX := Lib.hid hxx; clear hxx
            go_wp2_with (first | (go_at_call 43; refine (isDigit_any _ _).mono ?_; rintro e w' ⟨rfl, rfl⟩; rw [C1.out]) | (go_at_call 34; refine (fail_any hR).mono ?_; rintro e w2 ⟨m, o, st1, rfl, hR2, hU2⟩))
            refine ⟨rfl, ?_⟩
            rw [← HX.out]; exact ⟨m, o, st1, rfl, hR2, hU.trans hU2⟩
          · rw [if_neg c2] at hxx
            have HX := Lib.hid hxx; clear hxx
            have hn : Hid (r.length + 1 ≤ st.str.length) := hle
            clear hle
            go_wp2_with (first | (go_at_call 43; refine (isDigit_any _ _).mono ?_; rintro e w' ⟨rfl, rfl⟩; rw [C1.out]) | (go_at_call 53; refine (advance1 hR hw2 HC).mono ?_; rintro e w1 ⟨rfl, hR1, hU1⟩))
            rw [RS.go_go] at hR1
            go_roundg r.length
            case measure => have := hgk.out; simp at this; omega
            case rel => exact ⟨_, r, rfl, rfl, hR1, wf_go hw (by have := hn.out; omega), HX.out, hU.trans hU1, by have := hn.out; omega, by omega, by omega⟩
        · rw [if_neg c1] at hxx
          have HX := Lib.hid hxx; clear hxx
          simp only [Bool.not_eq_true] at c1
          have C1 := Lib.hid c1; clear c1
          go_wp2_with (first | (go_at_call 43; refine (isDigit_any _ _).mono ?_; rintro e w' ⟨rfl, rfl⟩; rw [C1.out]))
          go_ret
          rw [← HX.out]; exact ⟨rfl, hR, hU⟩
set_option maxHeartbeats 400000 in
theorem disamb_any {w : World} {p : Nat} {st : RS} (hR : RAt w p st) (hw : st.Wf) :
    Calls Tryd.prog 65 #[.pointer (some ⟨p, 0, none⟩)] w fun e w' => NumRes p w st (disN st.str) e w' := by
  generalize hX : disN st.str = X
  unfold disN at hX
  have hs := hR.str
  cases hl : st.str with
  | nil =>
    rw [hl] at hX hs
    have hr : X = some (0, []) := by rw [← hX]; rfl
    clear hX
    have HL := Lib.hid hl; clear hl
    go_enter Tryd.func65, Tryd.ntmps65
    go_wp2
    go_ret
    rw [hr]; exact ⟨rfl, by rw [← HL.out, RS.go_self]; exact hR, Upd.refl p w⟩
  | cons c r =>
    rw [hl] at hX hs
    have HL := Lib.hid hl; clear hl
    by_cases h1 : c = 115
    · subst h1
      have hr : (b62 r).map (fun x => (wrap64 (x.1 + 1), x.2)) = X := by rw [← hX]; rfl
      clear hX
      have HX := Lib.hid hr; clear hr
      have hw1 : (st.go r).Wf := wf_go hw (by rw [HL.out]; simp)
      go_enter Tryd.func65, Tryd.ntmps65
      go_wp2_with (first | (go_at_call 53; refine (advance1 hR hw HL).mono ?_; rintro e w1 ⟨rfl, hR1, hU1⟩))
      refine (base62_any hR1 hw1).mono ?_
      rintro e w2 hn
      have e1 : (st.go r).str = r := rfl
      rw [e1] at hn
      cases hb : b62 r with
      | none =>
        rw [hb] at hn
        obtain ⟨m, o, st1, rfl, hR2, hU2⟩ := hn
        have hx : X = none := by rw [← HX.out, hb]; rfl
        go_wp2
        refine ⟨rfl, ?_⟩
        rw [hx]; exact ⟨m, o, st1, rfl, hR2, hU1.trans hU2⟩
      | some y =>
        obtain ⟨v, r2⟩ := y
        rw [hb] at hn
        obtain ⟨rfl, hR2, hU2⟩ := hn
        have hx : X = some (wrap64 (v + 1), r2) := by rw [← HX.out, hb]; rfl
        clear hb
        go_wp2
        go_ret
        rw [hx]; rw [RS.go_go] at hR2; exact ⟨rfl, hR2, hU1.trans hU2⟩
    · have hr : X = some (0, c :: r) := by rw [← hX, if_neg (by simp [h1])]
      clear hX
      have hc : ((c.toNat : Int) != 115) = true := by simp; intro h2; exact h1 (UInt8.toNat_inj.1 (by show c.toNat = 115; omega))
      clear h1
      go_enter Tryd.func65, Tryd.ntmps65
      go_wp2
      go_ret
      rw [hr]; exact ⟨rfl, by rw [← HL.out, RS.go_self]; exact hR, Upd.refl p w⟩
end Go.Proofs.YtcelplibjhannaaDoor
