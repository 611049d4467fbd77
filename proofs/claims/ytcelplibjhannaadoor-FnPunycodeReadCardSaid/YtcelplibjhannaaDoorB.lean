/- Walks of the readers of digits. -/
import Derived.Test.YtcelplibjhannaaDoorA
namespace Go.Proofs.YtcelplibjhannaaDoor
open Go.RowKit

/-- what a reader of a delta hands back -/
def RdRes (x : Option (Int × List UInt8)) (e : Ending) : Prop :=
  match x with
  | some (s, r) => e = .returned (.tuple #[.int .i64 s, .string ⟨r.toArray⟩, .bool true])
  | none => ∃ a b, e = .returned (.tuple #[.int .i64 a, .string b, .bool false])
set_option maxHeartbeats 1000000 in
theorem idRead_any (l : List UInt8) (f b : Int) (w : World) (hl : l.length ≤ 4294967296) (f0 : 0 ≤ f) (f1 : f ≤ 1099511627776) (b0 : 0 ≤ b) (b1 : b ≤ 1000) :
    Calls Tryd.prog 16 #[.string ⟨l.toArray⟩, .int .i64 f, .int .i64 b] w fun e w' => RdRes (rd l 1 1 f b) e ∧ w = w' := by
  generalize hR : rd l 1 1 f b = R
  have HR := Lib.hid hR; clear hR
  go_enter Tryd.func16, Tryd.ntmps16
  go_wp2
  go_loop [0, 9, 10, 11] (fun lv sv wv pv => ∃ (l' : List UInt8) (s wt p : Int), lv = .string ⟨l'.toArray⟩ ∧ sv = .int .i64 s ∧ wv = .int .i64 wt ∧ pv = .int .i64 p ∧
      Hid (rd l' p wt s b = R) ∧ l'.length ≤ 4294967296 ∧ 1 ≤ p ∧ p + l'.length ≤ 1 + l.length ∧ 1 ≤ wt ∧ wt ≤ 2087831270 ∧ f ≤ s ∧ s ≤ f + 4 * wt) (fun _ _ _ pv => l.length + 2 - (intOf pv).toNat)
  case atStart => exact ⟨l, f, 1, 1, rfl, rfl, rfl, rfl, HR.out, by omega, by omega, by omega, by omega, by omega, by omega, by omega⟩
  case round =>
    obtain ⟨l', s, wt, p, rfl, rfl, rfl, rfl, hr, l1, p0, p1, w0, w1, s0, s1⟩ := hrel
    cases l' with
    | nil =>
      go_wp2
      have h1 : R = none := by rw [← hr.out]; rfl
      refine bodyPost_ret (v := .tuple #[.int .i64 0, .string ⟨#[]⟩, .bool false]) (by simp [results, go_sem]) rfl ⟨?_, rfl⟩
      subst h1; exact ⟨_, _, rfl⟩
    | cons c r =>
      simp only [List.length_cons] at l1 p1
      have hc : (c.toNat : Int) ≤ 255 := by have := c.toNat_lt; omega
      have hdb := digV_bd c.toNat
      have htb := thr_bd p b
      have hm0 : -1 * wt ≤ digV c.toNat * wt := Int.mul_le_mul_of_nonneg_right (by omega) (by omega)
      have hm1 : digV c.toNat * wt ≤ 35 * wt := Int.mul_le_mul_of_nonneg_right (by omega) (by omega)
      have hr2 := hr.out; unfold rd at hr2
      generalize hd : digV c.toNat = d at *
      generalize ht : thr p b = t at *
      have HD := Lib.hid hd; have HT := Lib.hid ht; clear hd ht hr
      have HR2 := Lib.hid hr2; clear hr2
      by_cases c1 : d < 0
      · go_wp2_with (first | (go_at_call 23; refine (idDigit_b _ _).mono ?_; rintro e w' ⟨rfl, rfl⟩; rw [HD.out]) | (go_at_call 24; refine (idThreshold_any _ _ _ (by omega) (by omega) (by omega) (by omega)).mono ?_; rintro e w' ⟨rfl, rfl⟩; rw [HT.out]))
        have h1 : R = none := by rw [← HR2.out, if_pos (Or.inl c1)]
        go_ret3
        subst h1; exact ⟨⟨_, _, rfl⟩, rfl⟩
      · by_cases c2 : d < t
        · by_cases c3 : s + d * wt ≤ 1099511627776
          · have h1 : Hid (R = some (s + d * wt, r)) := by rw [Hid, ← HR2.out, if_neg (by omega), if_pos c2, if_pos c3]
            go_wp2_with (first | (go_at_call 23; refine (idDigit_b _ _).mono ?_; rintro e w' ⟨rfl, rfl⟩; rw [HD.out]) | (go_at_call 24; refine (idThreshold_any _ _ _ (by omega) (by omega) (by omega) (by omega)).mono ?_; rintro e w' ⟨rfl, rfl⟩; rw [HT.out]))
            go_ret3
            rw [h1.out]; exact ⟨rfl, rfl⟩
          · have h1 : Hid (R = none) := by rw [Hid, ← HR2.out, if_neg (by omega), if_pos c2, if_neg c3]
            have c3b : decide (s + d * wt ≤ 1099511627776) = false := decide_eq_false c3
            go_wp2_with (first | (go_at_call 23; refine (idDigit_b _ _).mono ?_; rintro e w' ⟨rfl, rfl⟩; rw [HD.out]) | (go_at_call 24; refine (idThreshold_any _ _ _ (by omega) (by omega) (by omega) (by omega)).mono ?_; rintro e w' ⟨rfl, rfl⟩; rw [HT.out]))
            go_ret3
            rw [h1.out]; exact ⟨⟨_, _, rfl⟩, rfl⟩
        · by_cases c4 : wt ≥ 59652323
          · have h1 : Hid (R = none) := by rw [Hid, ← HR2.out, if_neg (by omega), if_neg c2, if_pos c4]
            go_wp2_with (first | (go_at_call 23; refine (idDigit_b _ _).mono ?_; rintro e w' ⟨rfl, rfl⟩; rw [HD.out]) | (go_at_call 24; refine (idThreshold_any _ _ _ (by omega) (by omega) (by omega) (by omega)).mono ?_; rintro e w' ⟨rfl, rfl⟩; rw [HT.out]))
            go_ret3
            rw [h1.out]; exact ⟨⟨_, _, rfl⟩, rfl⟩
          · have hn := Lib.hid HR2.out
            have hn2 : Hid (rd r (p + 1) (wt * (36 - t)) (s + d * wt) b = R) := by have := hn.out; rw [if_neg (by omega), if_neg c2, if_neg c4] at this; exact this
            have y0 : wt * 10 ≤ wt * (36 - t) := Int.mul_le_mul_of_nonneg_left (by omega) (by omega)
            have y1 : wt * (36 - t) ≤ wt * 35 := Int.mul_le_mul_of_nonneg_left (by omega) (by omega)
            have y2 : 0 ≤ d * wt := Int.mul_nonneg (by omega) (by omega)
            clear hn HR2
            go_wp2_with (first | (go_at_call 23; refine (idDigit_b _ _).mono ?_; rintro e w' ⟨rfl, rfl⟩; rw [HD.out]) | (go_at_call 24; refine (idThreshold_any _ _ _ (by omega) (by omega) (by omega) (by omega)).mono ?_; rintro e w' ⟨rfl, rfl⟩; rw [HT.out]))
            go_round
            case rel => exact ⟨r, _, _, _, rfl, rfl, rfl, rfl, hn2, by omega, by omega, by omega, by omega, by omega, by omega, by omega⟩
            case measure => simp [intOf]; omega
end Go.Proofs.YtcelplibjhannaaDoor
