/- The walk of the reference's word for the name of an identifier. -/
import Derived.Test.YtcelplibjhannaaDoorC
namespace Go.Proofs.YtcelplibjhannaaDoor
open Go.RowKit

theorem idDecoded_some {bs ds : List UInt8} {l : List Int} {w : World} (hl : bs.length ≤ 2147483648) (hd : ds.length ≤ 2147483648) (h : Hid (decoded bs ds = some l)) :
    Calls Tryd.prog 11 #[.string ⟨bs.toArray⟩, .string ⟨ds.toArray⟩] w fun e w' => (∃ a c, e = .returned (.tuple #[.slice a l.length c, .bool true]) ∧ w'.ownsRow w.heap.size 3 1 (.slice a l.length c) l.length (ints l)) ∧ Below w.heap.size w w' :=
  (idDecoded_any bs ds w hl hd).mono fun e w' ⟨hh, hb⟩ => by
    rw [h.out] at hh; obtain ⟨v, he, ho⟩ := hh
    obtain ⟨a, c, rfl, -, -, -⟩ := owns_form ho
    exact ⟨⟨a, c, he, ho⟩, hb⟩
theorem idDecoded_none {bs ds : List UInt8} {w : World} (hl : bs.length ≤ 2147483648) (hd : ds.length ≤ 2147483648) (h : Hid (decoded bs ds = none)) :
    Calls Tryd.prog 11 #[.string ⟨bs.toArray⟩, .string ⟨ds.toArray⟩] w fun e w' => e = .returned (.tuple #[.slice none 0 0, .bool false]) ∧ Below w.heap.size w w' :=
  (idDecoded_any bs ds w hl hd).mono fun e w' ⟨hh, hb⟩ => by rw [h.out] at hh; exact ⟨hh, hb⟩
def ToldRes (x : Option (List UInt8)) (e : Ending) : Prop :=
  match x with
  | some t => e = .returned (.tuple #[.string ⟨t.toArray⟩, .bool true])
  | none => ∃ y, e = .returned (.tuple #[.string y, .bool false])
set_option maxHeartbeats 1000000 in
theorem IdTold_any (l : List UInt8) (puny : Bool) (w : World) (hl : l.length ≤ 2147483648) :
    Calls Tryd.prog 5 #[.string ⟨l.toArray⟩, .bool puny] w fun e w' => ToldRes (told l puny) e ∧ Below w.heap.size w w' := by
  generalize hR : told l puny = R
  unfold told at hR
  by_cases h1 : l.all isPlain = true
  · cases puny with
    | false =>
      have hr : R = some l := by rw [if_neg (show ¬ (l.all isPlain = false) by rw [h1]; simp), if_pos rfl] at hR; exact hR.symm
      have h1' := h1
      clear hR
      go_enter Tryd.func5, Tryd.ntmps5
      go_wp2_with (first | (go_at_call 10; refine (IdIsPlain_any _ _ (by unfold maxLen; omega)).mono ?_; rintro e w' ⟨rfl, rfl⟩; rw [h1']))
      go_ret2
      rw [hr]; exact ⟨rfl, Below.refl _ _⟩
    | true =>
      have hr : (if cutOf l = 0 ∨ digOf l = [] then none else (decoded (befOf l) (digOf l)).map u8) = R := by rw [if_neg (show ¬ (l.all isPlain = false) by rw [h1]; simp), if_neg (show ¬ (true = false) by simp)] at hR; exact hR
      have HR := Lib.hid hr
      have H1 := Lib.hid h1
      clear hR hr h1
      go_enter Tryd.func5, Tryd.ntmps5
      go_wp2_with (first | (go_at_call 10; refine (IdIsPlain_any _ _ (by unfold maxLen; omega)).mono ?_; rintro e w' ⟨rfl, rfl⟩; rw [H1.out]))
      go_loop [6, 27] (fun cv iv => ∃ k : Nat, k ≤ l.length ∧ iv = .int .i64 k ∧ cv = .int .i64 (cutTo l k)) (fun _ iv => l.length - (intOf iv).toNat)
      case atStart => exact ⟨0, by omega, rfl, rfl⟩
      case round =>
        obtain ⟨k, hk, rfl, rfl⟩ := hrel
        by_cases hlt : k < l.length
        · have hc := Lib.hid (show cutTo l (k + 1) = if l[k]? = some 95 then (k : Int) else cutTo l k from rfl)
          have he := Lib.hid (List.getElem?_eq_getElem hlt)
          go_wp2
          all_goals
            go_round
            case rel => exact ⟨k + 1, by omega, by go_num, by rw [hc.out, he.out]; first | rw [if_pos (congrArg some (c95t ‹((l[k].toNat : Int) == 95) = true›))] | rw [if_neg (fun hx => c95f ‹((l[k].toNat : Int) == 95) = false› (Option.some.inj hx))]⟩
            case measure => simp [intOf]; omega
        · obtain rfl : k = l.length := by omega
          have hcb := cutTo_bd l l.length
          obtain ⟨cu, hcu⟩ : ∃ cu, cutTo l l.length = cu := ⟨_, rfl⟩
          have hco : cutOf l = cu := hcu
          rw [hcu] at hcb
          rw [hcu]
          obtain ⟨cb0, cb1⟩ := hcb
          obtain ⟨bs, hbs⟩ : ∃ bs, befOf l = bs := ⟨_, rfl⟩
          obtain ⟨ds, hds⟩ : ∃ ds, digOf l = ds := ⟨_, rfl⟩
          have hbs' := hbs; have hds' := hds
          unfold befOf at hbs'; unfold digOf at hds'
          rw [hco] at hbs' hds'
          have hr := HR.out
          rw [hco, hbs, hds] at hr
          have hbl : bs.length ≤ 2147483648 := by rw [← hbs']; split <;> simp <;> omega
          have hdl : ds.length ≤ 2147483648 := by rw [← hds']; simp; omega
          have HR2 := Lib.hid hr
          clear HR hr hbs hds hco hcu
          have hc3 : cu = 0 ∨ 0 < cu ∨ cu = -1 := by omega
          rcases hc3 with hc0 | hc0 | hc0
          · subst hc0
            clear hbs' hds'
            have h2 : Hid (R = none) := by rw [Hid, ← HR2.out, if_pos (Or.inl rfl)]
            go_wp2
            go_ret2
            rw [h2.out]; exact ⟨⟨_, rfl⟩, Below.refl _ _⟩
          · rw [if_pos hc0] at hbs'
            have hcne : (cu == 0) = false := by simp; omega
            cases ds with
            | nil =>
              have h2 : Hid (R = none) := by rw [Hid, ← HR2.out, if_pos (Or.inr rfl)]
              go_wp2
              go_ret2
              rw [h2.out]; exact ⟨⟨_, rfl⟩, Below.refl _ _⟩
            | cons x xs =>
              have h3 := HR2.out; rw [if_neg (by simp; try omega)] at h3; clear HR2
              cases hdd : decoded bs (x :: xs) with
              | none =>
                rw [hdd] at h3
                have H3 := Lib.hid h3; clear h3
                have HD := Lib.hid hdd; clear hdd
                go_wp2_with (go_at_call 11; refine (idDecoded_none hbl hdl HD).mono ?_; rintro e w' ⟨rfl, hbel⟩)
                go_loop [12, 59] (fun tv iv => tv = .string ⟨#[]⟩ ∧ iv = .int .i64 0) (fun _ _ => 0)
                case atStart => exact ⟨rfl, rfl⟩
                case round =>
                  obtain ⟨rfl, rfl⟩ := hrel
                  go_wp2
                  go_ret2
                  rw [← H3.out]; exact ⟨⟨_, rfl⟩, hbel⟩
              | some out =>
                rw [hdd] at h3
                have H3 := Lib.hid h3; clear h3
                have hob := decoded_bd hdd
                have hol := decoded_len hdd
                have HD := Lib.hid hdd; clear hdd
                go_wp2_with (go_at_call 11; refine (idDecoded_some hbl hdl HD).mono ?_; rintro e w' ⟨⟨a, c, rfl, hown⟩, hbel⟩)
                go_loop [12, 59] (fun tv iv => ∃ k : Nat, k ≤ out.length ∧ tv = .string (runesBytes (out.take k)) ∧ iv = .int .i64 k) (fun _ iv => out.length - (intOf iv).toNat)
                case atStart => exact ⟨0, by omega, rfl, rfl⟩
                case round =>
                  obtain ⟨k, hk, rfl, rfl⟩ := hrel
                  by_cases hlt2 : k < out.length
                  · obtain ⟨g, c', sp, hv, hBg, hg, hxl, hcl, hcm⟩ := owns_open hown (by omega)
                    simp only [Value.slice.injEq] at hv
                    obtain ⟨rfl, -, rfl⟩ := hv
                    have hcell := cells_at hg k (by simp [ints]; omega)
                    rw [show (ints out ++ sp)[k]'(by simp [ints]; omega) = .int .i64 out[k] from by rw [List.getElem_append_left (by simp [ints]; exact hlt2)]; simp [ints]] at hcell
                    obtain ⟨c0, c1⟩ := hob _ (List.getElem_mem hlt2)
                    have hsz : (runesBytes (out.take k)).size ≤ 17179869184 := by have h := runesBytes_size_le (out.take k); rw [List.length_take] at h; omega
                    have hen := encode_size_le out[k]
                    have hsn : Hid (runesBytes (out.take (k + 1)) = runesBytes (out.take k) ++ Utf8.encode out[k]) := by
                      show _ = _
                      rw [List.take_succ_eq_append_getElem hlt2, runes_snoc]
                    have hbd := Lib.hid hbel
                    clear hg hown hob hbel
                    go_wp2
                    go_round
                    case rel => exact ⟨k + 1, by omega, by rw [hsn.out], by go_num⟩
                    case measure => simp [intOf]; omega
                  · obtain rfl : k = out.length := by omega
                    clear hown hob
                    go_wp2
                    go_ret2
                    rw [← H3.out]; exact ⟨by show _ = _; dsimp only; rw [u8_val]; rfl, hbel⟩
          · subst hc0
            rw [if_neg (by omega)] at hbs'
            subst hbs'
            obtain rfl : l = ds := by simpa using hds'
            clear hds'
            have hbl : ([] : List UInt8).length ≤ 2147483648 := by simp
            cases l with
            | nil =>
              have h2 : Hid (R = none) := by rw [Hid, ← HR2.out, if_pos (Or.inr rfl)]
              go_wp2
              go_ret2
              rw [h2.out]; exact ⟨⟨_, rfl⟩, Below.refl _ _⟩
            | cons x xs =>
              have h3 := HR2.out; rw [if_neg (by simp; try omega)] at h3; clear HR2
              cases hdd : decoded [] (x :: xs) with
              | none =>
                rw [hdd] at h3
                have H3 := Lib.hid h3; clear h3
                have HD := Lib.hid hdd; clear hdd
                go_wp2_with (go_at_call 11; refine (idDecoded_none hbl hdl HD).mono ?_; rintro e w' ⟨rfl, hbel⟩)
                go_loop [12, 59] (fun tv iv => tv = .string ⟨#[]⟩ ∧ iv = .int .i64 0) (fun _ _ => 0)
                case atStart => exact ⟨rfl, rfl⟩
                case round =>
                  obtain ⟨rfl, rfl⟩ := hrel
                  go_wp2
                  go_ret2
                  rw [← H3.out]; exact ⟨⟨_, rfl⟩, hbel⟩
              | some out =>
                rw [hdd] at h3
                have H3 := Lib.hid h3; clear h3
                have hob := decoded_bd hdd
                have hol := decoded_len hdd
                have HD := Lib.hid hdd; clear hdd
                go_wp2_with (go_at_call 11; refine (idDecoded_some hbl hdl HD).mono ?_; rintro e w' ⟨⟨a, c, rfl, hown⟩, hbel⟩)
                go_loop [12, 59] (fun tv iv => ∃ k : Nat, k ≤ out.length ∧ tv = .string (runesBytes (out.take k)) ∧ iv = .int .i64 k) (fun _ iv => out.length - (intOf iv).toNat)
                case atStart => exact ⟨0, by omega, rfl, rfl⟩
                case round =>
                  obtain ⟨k, hk, rfl, rfl⟩ := hrel
                  by_cases hlt2 : k < out.length
                  · obtain ⟨g, c', sp, hv, hBg, hg, hxl, hcl, hcm⟩ := owns_open hown (by omega)
                    simp only [Value.slice.injEq] at hv
                    obtain ⟨rfl, -, rfl⟩ := hv
                    have hcell := cells_at hg k (by simp [ints]; omega)
                    rw [show (ints out ++ sp)[k]'(by simp [ints]; omega) = .int .i64 out[k] from by rw [List.getElem_append_left (by simp [ints]; exact hlt2)]; simp [ints]] at hcell
                    obtain ⟨c0, c1⟩ := hob _ (List.getElem_mem hlt2)
                    have hsz : (runesBytes (out.take k)).size ≤ 17179869184 := by have h := runesBytes_size_le (out.take k); rw [List.length_take] at h; omega
                    have hen := encode_size_le out[k]
                    have hsn : Hid (runesBytes (out.take (k + 1)) = runesBytes (out.take k) ++ Utf8.encode out[k]) := by
                      show _ = _
                      rw [List.take_succ_eq_append_getElem hlt2, runes_snoc]
                    have hbd := Lib.hid hbel
                    clear hg hown hob hbel
                    go_wp2
                    go_round
                    case rel => exact ⟨k + 1, by omega, by rw [hsn.out], by go_num⟩
                    case measure => simp [intOf]; omega
                  · obtain rfl : k = out.length := by omega
                    clear hown hob
                    go_wp2
                    go_ret2
                    rw [← H3.out]; exact ⟨by show _ = _; dsimp only; rw [u8_val]; rfl, hbel⟩
  · simp only [Bool.not_eq_true] at h1
    have hr : Hid (R = none) := by rw [Hid, ← hR, if_pos h1]
    clear hR
    have H1 := Lib.hid h1; clear h1
    go_enter Tryd.func5, Tryd.ntmps5
    go_wp2_with (first | (go_at_call 10; refine (IdIsPlain_any _ _ (by unfold maxLen; omega)).mono ?_; rintro e w' ⟨rfl, rfl⟩; rw [H1.out]))
    go_ret2
    rw [hr.out]; exact ⟨⟨_, rfl⟩, Below.refl _ _⟩
end Go.Proofs.YtcelplibjhannaaDoor
