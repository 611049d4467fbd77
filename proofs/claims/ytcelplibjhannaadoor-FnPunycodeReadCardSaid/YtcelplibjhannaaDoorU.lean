/- Walks of the reader of identifiers. -/
import Derived.Test.YtcelplibjhannaaDoorP
namespace Go.Proofs.YtcelplibjhannaaDoor
open Go.RowKit

/-- what a reader of a name hands back -/
def UndRes (p : Nat) (w : World) (st : RS) (x : Option (List UInt8 × Bool × List UInt8)) (e : Ending) (w' : World) : Prop :=
  match x with
  | some (t, u, r) => Ret p w (st.go r) (.tuple #[.string ⟨t.toArray⟩, .bool u]) e w'
  | none => Fails p w e w'
theorem told_bytes {l t : List UInt8} (h : told l true = some t) : cutOf l ≠ 0 ∧ digOf l ≠ [] ∧ ∃ out, decoded (befOf l) (digOf l) = some out ∧ t = u8 out := by
  unfold told at h
  split at h
  · cases h
  · rw [if_neg (by simp)] at h
    split at h
    · cases h
    · rename_i h2
      cases hd : decoded (befOf l) (digOf l) with
      | none => rw [hd] at h; cases h
      | some out => rw [hd] at h; simp at h; exact ⟨fun h3 => h2 (.inl h3), fun h3 => h2 (.inr h3), out, rfl, h.symm⟩
theorem expand_told {w : World} {p : Nat} {st : RS} {s t : List UInt8} (hR : RAt w p st) (hl : s.length ≤ 2147483648) (hpl : s.all isPlain = true) (ht : Hid (told s true = some t)) :
    Calls Tryd.prog 79 #[.pointer (some ⟨p, 0, none⟩), .string ⟨s.toArray⟩] w fun e w' => e = .returned (.string ⟨t.toArray⟩) ∧ RAt w' p st ∧ Upd p w w' := by
  obtain ⟨h1, h2, out, h3, rfl⟩ := told_bytes ht.out
  rw [u8_val]
  exact (expand_any hR hl hpl h1 h2 h3).mono fun e w' ⟨he, hb⟩ => ⟨he, hR.below hb, Upd.of_below hR.lt hb⟩
set_option maxHeartbeats 2000000 in
set_option maxRecDepth 100000 in
theorem und_any {w : World} {p : Nat} {st : RS} {x : Option (List UInt8 × Bool × List UInt8)} (hR : RAt w p st) (hw : st.Wf) (hx : undN st.str = some x) :
    Calls Tryd.prog 66 #[.pointer (some ⟨p, 0, none⟩)] w fun e w' => UndRes p w st x e w' := by
  unfold undN at hx
  simp only at hx
  obtain ⟨u, hu⟩ : ∃ u, decide (st.str.head? = some 117) = u := ⟨_, rfl⟩
  obtain ⟨l1, hl1⟩ : ∃ l1, (if u = true then st.str.tail else st.str) = l1 := ⟨_, rfl⟩
  rw [hu, hl1] at hx
  have hle1 : l1.length ≤ st.str.length := by rw [← hl1]; split <;> simp
  have HX := Lib.hid hx; clear hx
  go_enter Tryd.func66, Tryd.ntmps66
  go_upto_region 2 with fail
  go_cut [20] (fun bv wc => bv = .bool u ∧ w = wc)
  case first =>
    cases hs : st.str with
    | nil =>
      have hs' : w.cell? ⟨p, 1, none⟩ = some (.string ⟨#[]⟩) := by have h := hR.str; rw [hs] at h; exact h
      rw [hs] at hu; simp at hu; subst hu
      clear hl1 hs
      go_wp2
      go_meet
      exact ⟨rfl, rfl⟩
    | cons c r =>
      have hs' : w.cell? ⟨p, 1, none⟩ = some (.string ⟨(c :: r).toArray⟩) := by have h := hR.str; rw [hs] at h; exact h
      have e1 : Hid (u = ((c.toNat : Int) == 117)) := by
        rw [hs] at hu; show _ = _; rw [← hu]
        by_cases hc : c = 117
        · subst hc; rfl
        · have hcb : ((c.toNat : Int) == 117) = false := by simp; intro h2; exact hc (UInt8.toNat_inj.1 (by show c.toNat = 117; omega))
          rw [hcb]; simp [hc]
      clear hu hl1 hs
      go_wp2
      all_goals
        go_meet
        exact ⟨by rw [e1.out], rfl⟩
  case rest =>
  obtain ⟨rfl, rfl⟩ := hcut
  go_upto_if 20 with fail
  go_cut [3] (fun pv wc => pv = .bool u ∧ RAt wc p (st.go l1) ∧ Upd p w wc)
  case first =>
    cases u with
    | false =>
      simp at hl1
      have e1 : Hid (l1 = st.str) := hl1.symm
      clear hu hl1
      go_wp2
      go_meet
      exact ⟨rfl, by rw [e1.out, RS.go_self]; exact hR, Upd.refl p _⟩
    | true =>
      cases hs : st.str with
      | nil => rw [hs] at hu; simp at hu
      | cons c r =>
        have HC := Lib.hid hs
        have e1 : Hid (l1 = r) := by rw [hs] at hl1; simp at hl1; exact hl1.symm
        clear hu hl1 hs
        go_wp2_with (go_at_call 53; refine (advance1 hR hw HC).mono ?_; rintro e w1 ⟨rfl, hR1, hU1⟩)
        go_meet
        exact ⟨rfl, by rw [e1.out]; exact hR1, hU1⟩
  case rest =>
    clear hu hl1 hR
    obtain ⟨rfl, hR, hU⟩ := hcut
    have hw1 : (st.go l1).Wf := wf_go hw hle1
    go_wp2_with fail
    refine (decimal_any hR hw1).mono ?_
    intro e w1 hn
    have es : (st.go l1).str = l1 := rfl
    rw [es] at hn
    cases hd : decN l1 with
    | none =>
      rw [hd] at hn
      obtain ⟨m, o, st1, rfl, hR2, hU2⟩ := hn
      have hx : Hid (x = none) := by have h := HX.out; rw [hd] at h; exact (Option.some.inj h).symm
      go_wp2
      refine ⟨rfl, ?_⟩
      rw [hx.out]; exact ⟨m, o, st1, rfl, hR2, hU.trans hU2⟩
    | some vl =>
      obtain ⟨v, l2⟩ := vl
      rw [hd] at hn
      obtain ⟨rfl, hR1, hU1⟩ := hn
      obtain ⟨hle2, v0, v1⟩ := decN_ok hd
      have h := HX.out; rw [hd] at h; clear HX hd
      simp only at h
      obtain ⟨l3, hl3⟩ : ∃ l3, (if l2.head? = some 95 then l2.tail else l2) = l3 := ⟨_, rfl⟩
      rw [hl3] at h
      have hle3 : l3.length ≤ l2.length := by rw [← hl3]; split <;> simp
      rw [RS.go_go] at hR1
      have HX := Lib.hid h; clear h
      have hw2 : (st.go l2).Wf := wf_go hw (by omega)
      go_upto_region 6 with fail
      obtain ⟨u2, hu2⟩ : ∃ u2, decide (l2.head? = some 95) = u2 := ⟨_, rfl⟩
      go_cut [38] (fun bv wc => bv = .bool u2 ∧ w1 = wc)
      case first =>
        cases l2 with
        | nil =>
          have hs' : w1.cell? ⟨p, 1, none⟩ = some (.string ⟨#[]⟩) := hR1.str
          simp at hu2; subst hu2
          clear hl3
          go_wp2
          go_meet
          exact ⟨rfl, rfl⟩
        | cons c r =>
          have hs' : w1.cell? ⟨p, 1, none⟩ = some (.string ⟨(c :: r).toArray⟩) := hR1.str
          have e1 : Hid (u2 = ((c.toNat : Int) == 95)) := by
            show _ = _; rw [← hu2]
            by_cases hc : c = 95
            · subst hc; rfl
            · have hcb : ((c.toNat : Int) == 95) = false := by simp; intro h2; exact hc ((c95 c).1 h2)
              rw [hcb]; simp [hc]
          clear hu2 hl3
          go_wp2
          all_goals
            go_meet
            exact ⟨by rw [e1.out], rfl⟩
      case rest =>
      obtain ⟨rfl, rfl⟩ := hcut
      go_upto_if 38 with fail
      go_cut [4] (fun vv wc => vv = .int .i64 v ∧ RAt wc p (st.go l3) ∧ Upd p w wc)
      case first =>
        cases u2 with
        | false =>
          have e1 : Hid (l3 = l2) := by have h : ¬ l2.head? = some 95 := by simpa using hu2
                                        rw [if_neg h] at hl3; exact hl3.symm
          clear hu2 hl3
          go_wp2
          go_meet
          exact ⟨rfl, by rw [e1.out]; exact hR1, hU.trans hU1⟩
        | true =>
          have h : l2.head? = some 95 := by simpa using hu2
          cases l2 with
          | nil => simp at h
          | cons c r =>
            have e1 : Hid (l3 = r) := by rw [if_pos h] at hl3; exact hl3.symm
            have HC : Hid ((st.go (c :: r)).str = c :: r) := rfl
            clear hu2 hl3 h
            go_wp2_with (go_at_call 53; refine (advance1 hR1 hw2 HC).mono ?_; rintro e w2 ⟨rfl, hR2, hU2⟩)
            rw [RS.go_go] at hR2
            go_meet
            exact ⟨rfl, by rw [e1.out]; exact hR2, (hU.trans hU1).trans hU2⟩
      case rest =>
        clear hl3 hR hU hR1 hU1
        obtain ⟨rfl, hR, hU⟩ := hcut
        have hs' : wc.cell? ⟨p, 1, none⟩ = some (.string ⟨l3.toArray⟩) := hR.str
        have hw3 : (st.go l3).Wf := wf_go hw (by omega)
        have hl3b : l3.length ≤ 4294967296 := by obtain ⟨a, b⟩ := hw; omega
        by_cases hsh : (l3.length : Int) < v
        · have hx : Hid (x = none) := by have h := HX.out; rw [if_pos hsh] at h; exact (Option.some.inj h).symm
          go_wp2_with (go_at_call 34; refine (fail_any hR).mono ?_; rintro e w2 ⟨m, o, st1, rfl, hR2, hU2⟩)
          refine ⟨rfl, ?_⟩
          rw [hx.out]; exact ⟨m, o, st1, rfl, hR2, hU.trans hU2⟩
        · have h := HX.out; rw [if_neg hsh] at h; clear HX
          obtain ⟨id, hid'⟩ : ∃ id, l3.take v.toNat = id := ⟨_, rfl⟩
          rw [hid'] at h
          have hidl : id.length ≤ 2147483648 := by rw [← hid']; simp; omega
          have HX := Lib.hid h; clear h
          have HID := Lib.hid hid'
          go_wp2_with (go_at_call 53; refine (advance_any hR hw3 v0 (by show v ≤ (l3.length : Int); omega)).mono ?_; rintro e w2 ⟨rfl, hR2, hU2⟩)
          have hR3 : Hid (RAt w2 p (st.go (l3.drop v.toNat))) := by rw [RS.go_go] at hR2; exact hR2
          have hU3 : Upd p w w2 := hU.trans hU2
          clear hR hU hs' hR2 hU2
          go_loop [5] (fun iv => ∃ k : Nat, k ≤ id.length ∧ iv = .int .i64 k ∧ (id.take k).all isPlain = true) (fun iv => id.length - (intOf iv).toNat)
          case atStart => exact ⟨0, by omega, rfl, by simp⟩
          case round =>
            obtain ⟨k, hk, rfl, hp⟩ := hrel
            have HP := Lib.hid hp; clear hp
            by_cases hlt : k < id.length
            · have hcb : (id[k].toNat : Int) ≤ 255 := by have := id[k].toNat_lt; omega
              obtain ⟨c, hc⟩ : ∃ c, id[k] = c := ⟨_, rfl⟩
              have hx1 : Hid (id.take (k + 1) = id.take k ++ [c]) := by show _ = _; rw [List.take_succ_eq_append_getElem hlt, hc]
              rw [hc] at hcb
              by_cases hpl : isPlain c = true
              · have h1 : Hid ((48 ≤ (c.toNat : Int) ∧ (c.toNat : Int) ≤ 57) ∨ (c.toNat : Int) = 95 ∨ (65 ≤ (c.toNat : Int) ∧ (c.toNat : Int) ≤ 90) ∨ (97 ≤ (c.toNat : Int) ∧ (c.toNat : Int) ≤ 122)) := by
                  simp [isPlain, isDig, isLet] at hpl; show _ ∨ _; omega
                have HPL := Lib.hid hpl; clear hpl
                obtain ⟨b95, hb95⟩ : ∃ b, ((c.toNat : Int) == 95) = b := ⟨_, rfl⟩
                have hb2 : Hid (b95 = decide ((c.toNat : Int) = 95)) := by show _ = _; rw [← hb95]; rfl
                cases b95
                all_goals have hb3 : Hid (¬ (c.toNat : Int) = 95 ∨ (c.toNat : Int) = 95) := by show _ ∨ _; omega
                all_goals have hb4 := hb2.out
                all_goals simp at hb4
                all_goals have HB4 := Lib.hid hb4
                all_goals clear hb4 hb2 hb3
                all_goals go_wp2_with fail
                all_goals first
                  | (exfalso; have := h1.out; have := HB4.out; omega)
                  | (go_round
                     case rel => exact ⟨k + 1, by omega, by go_num, by rw [hx1.out, List.all_append, HP.out]; simp [HPL.out]⟩
                     case measure => simp [intOf]; omega)
              · have h1 : Hid (((c.toNat : Int) < 48 ∨ 57 < (c.toNat : Int)) ∧ (c.toNat : Int) ≠ 95 ∧ ((c.toNat : Int) < 65 ∨ 90 < (c.toNat : Int)) ∧ ((c.toNat : Int) < 97 ∨ 122 < (c.toNat : Int))) := by
                  simp [isPlain, isDig, isLet] at hpl; show _ ∧ _; omega
                have hx : Hid (x = none) := by
                  have ha : id.all isPlain = false := by rw [List.all_eq_false]; exact ⟨c, by rw [← hc]; exact List.getElem_mem hlt, hpl⟩
                  have h := HX.out; rw [if_pos ha] at h; exact (Option.some.inj h).symm
                have hb95 : ((c.toNat : Int) == 95) = false := by simp; exact h1.out.2.1
                clear hpl
                go_wp2_with (go_at_call 34; refine (fail_any hR3.out).mono ?_; rintro e w3 ⟨m, o, st1, rfl, hR4, hU4⟩)
                all_goals first
                  | (exfalso; have := h1.out; omega)
                  | (refine ⟨rfl, ?_⟩
                     rw [hx.out]; exact ⟨m, o, st1, rfl, hR4, hU3.trans hU4⟩)
            · obtain rfl : k = id.length := by omega
              have hpl : id.all isPlain = true := by have h := HP.out; rw [List.take_length] at h; exact h
              have h := HX.out; rw [if_neg (by rw [hpl]; simp)] at h
              clear HX
              cases ht : told id u with
              | none => rw [ht] at h; cases h
              | some t =>
                rw [ht] at h
                have hx : Hid (x = some (t, u, l3.drop v.toNat)) := (Option.some.inj h).symm
                clear h
                cases u with
                | false =>
                  have ht2 : Hid (t = id) := by unfold told at ht; rw [if_neg (by rw [hpl]; simp), if_pos rfl] at ht; exact (Option.some.inj ht).symm
                  clear ht hpl
                  go_wp2
                  go_ret2
                  rw [hx.out]; exact ⟨by rw [ht2.out]; rfl, hR3.out, hU3⟩
                | true =>
                  have HT := Lib.hid ht
                  have HPL := Lib.hid hpl
                  clear ht hpl
                  go_wp2_with (go_at_call 79; refine (expand_told hR3.out hidl HPL.out HT).mono ?_; rintro e w3 ⟨rfl, hR4, hU4⟩)
                  go_ret2
                  rw [hx.out]; exact ⟨rfl, hR4, hU3.trans hU4⟩
end Go.Proofs.YtcelplibjhannaaDoor
