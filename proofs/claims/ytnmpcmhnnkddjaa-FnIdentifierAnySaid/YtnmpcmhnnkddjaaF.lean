/- Walks of the reference's readers in front of a text. -/
import Derived.Test.YtnmpcmhnnkddjaaE
import Derived.BigQuiet
import Derived.Deep.CutBlock
import Derived.Deep.DeepCutAuto
namespace Go.Proofs.Ytnmpcmhnnkddjaa
open Go.RowKit

/-- the digits in base 62 -/
def digs : List UInt8 := [48, 49, 50, 51, 52, 53, 54, 55, 56, 57, 97, 98, 99, 100, 101, 102, 103, 104, 105, 106, 107, 108, 109, 110, 111, 112, 113, 114, 115, 116, 117, 118, 119, 120, 121, 122, 65, 66, 67, 68, 69, 70, 71, 72, 73, 74, 75, 76, 77, 78, 79, 80, 81, 82, 83, 84, 85, 86, 87, 88, 89, 90]
def digAt (k : Nat) : UInt8 := digs.getD k 0
theorem digAt_of : ∀ k, k < 62 → d62 (digAt k).toNat = k := by decide +kernel
theorem digAt_to' : ∀ n : Nat, n < 256 → d62 n ≠ -1 → (0 ≤ d62 n ∧ d62 n < 62 ∧ ((digAt (d62 n).toNat).toNat : Int) = n) := by decide +kernel
theorem d62_none {c : UInt8} (h : ∀ j, j < 62 → digAt j ≠ c) : d62 c.toNat = -1 := by
  by_cases hd : d62 c.toNat = -1
  · exact hd
  · obtain ⟨h1, h2, h3⟩ := digAt_to' c.toNat (by have := c.toNat_lt; omega) hd
    exact absurd (UInt8.toNat_inj.1 (Int.ofNat_inj.1 h3)) (h _ (by omega))
theorem digs_at (k : Nat) (h : k < digs.length) : digs[k]'h = digAt k := by unfold digAt; rw [List.getD_eq_getElem?_getD, List.getElem?_eq_getElem h]; rfl
theorem doorDigit_any (c : UInt8) (w : World) :
    Calls Try.prog 25 #[.int .u8 (c.toNat : Int)] w fun e w' => e = .returned (.int .i64 (d62 c.toNat)) ∧ w = w' := by
  have hcb : (c.toNat : Int) ≤ 255 := by have := c.toNat_lt; omega
  go_enter Try.func25, Try.ntmps25
  go_wp2
  go_loop [4] (fun iv => ∃ k : Nat, k ≤ 62 ∧ iv = .int .i64 k ∧ Hid (∀ j, j < k → digAt j ≠ c)) (fun iv => 62 - (intOf iv).toNat)
  case atStart => exact ⟨0, by omega, rfl, fun j hj => absurd hj (by omega)⟩
  case round =>
    obtain ⟨k, hk, rfl, hH⟩ := hrel
    by_cases hlt : k < 62
    · have hx : ∀ h, ([48, 49, 50, 51, 52, 53, 54, 55, 56, 57, 97, 98, 99, 100, 101, 102, 103, 104, 105, 106, 107, 108, 109, 110, 111, 112, 113, 114, 115, 116, 117, 118, 119, 120, 121, 122, 65, 66, 67, 68, 69, 70, 71, 72, 73, 74, 75, 76, 77, 78, 79, 80, 81, 82, 83, 84, 85, 86, 87, 88, 89, 90] : List UInt8)[k]'h = digAt k := fun h => digs_at k h
      have hd := digAt_of k hlt
      by_cases he : digAt k = c
      · have HD := Lib.hid hd; clear hd
        subst he
        go_wp2
        go_ret
        exact ⟨by simp [HD.out], rfl⟩
      · have he2 : ((digAt k).toNat : Int) ≠ c.toNat := fun h => he (UInt8.toNat_inj.1 (Int.ofNat_inj.1 h))
        clear hd
        go_wp2
        go_round
        case rel => exact ⟨k + 1, by omega, by go_num, fun j hj => by by_cases hjk : j = k; (· subst hjk; exact he); (· exact hH.out j (by omega))⟩
        case measure => simp [intOf]; omega
    · obtain rfl : k = 62 := by omega
      have hz : Hid (d62 c.toNat = -1) := d62_none hH.out
      go_wp2
      go_ret
      exact ⟨by simp [hz.out], rfl⟩

/-- a number in base 62 in front of a text, as the grammar says: its value, what follows, and whether it is told (0), refused (1) or open (2) -/
def g62 : List UInt8 → Bool → Int → Int × List UInt8 × Int
  | [], _, _ => (0, [], 1)
  | c :: r, f, n =>
    if (c.toNat : Int) = 95 then (if f then 0 else n + 1, r, 0)
    else if d62 c.toNat < 0 then (0, [], 1)
    else if n ≥ 72057594037927936 then (0, [], 2)
    else g62 r false (62 * n + d62 c.toNat)
theorem below_drewN (w : World) (n : Nat) : Below w.heap.size w (w.drewN n) := ⟨rfl, rfl, rfl, Nat.le_refl _, fun _ _ => rfl⟩
def R3 (x : Int × List UInt8 × Int) : Ending := .returned (.tuple #[.int .i64 x.1, .string ⟨x.2.1.toArray⟩, .int .i64 x.2.2])
theorem d62_bd (c : Int) : -1 ≤ d62 c ∧ d62 c ≤ 61 := by unfold d62; split <;> (try split) <;> (try split) <;> omega
theorem doorBase62_any (l : List UInt8) (w : World) (hl : l.length ≤ 2147483647) :
    Calls Try.prog 16 #[.string ⟨l.toArray⟩] w fun e w' => e = R3 (g62 l true 0) ∧ Below w.heap.size w w' := by
  generalize hR : g62 l true 0 = R
  have HR := Lib.hid hR; clear hR
  go_enter Try.func16, Try.ntmps16
  go_wp2
  go_loop [5, 10] (fun nv iv => ∃ (k : Nat) (n : Int), nv = .int .i64 n ∧ iv = .int .i64 k ∧ k ≤ l.length ∧ Hid (g62 (l.drop k) (decide (k = 0)) n = R) ∧ 0 ≤ n ∧ n ≤ 4467570830351532093) (fun _ iv => l.length - (intOf iv).toNat)
  case atStart => exact ⟨0, 0, rfl, rfl, by omega, HR, by omega, by omega⟩
  case round =>
    obtain ⟨k, n, rfl, rfl, hk, hG, n0, n1⟩ := hrel
    by_cases hlt : k < l.length
    · have hdr : l.drop k = l[k] :: l.drop (k + 1) := by rw [List.drop_eq_getElem_cons hlt]
      have hg := hG.out; rw [hdr, g62] at hg
      clear hdr hG
      have hdb := d62_bd l[k].toNat
      have hcb : (l[k].toNat : Int) ≤ 255 := by have := l[k].toNat_lt; omega
      by_cases c1 : (l[k].toNat : Int) = 95
      · rw [if_pos c1] at hg
        by_cases c2 : k = 0
        · subst c2
          have HG := Lib.hid hg; clear hg
          go_wp2
          go_quiet (fail)
          go_wp2
          go_ret3
          rw [← HG.out]; refine ⟨by simp [R3], ?_⟩; exact below_drewN w nq
        · have HG := Lib.hid hg; clear hg
          go_wp2
          go_quiet (fail)
          go_wp2
          go_ret3
          rw [← HG.out]; refine ⟨by simp [R3, c2], ?_⟩; exact below_drewN w nq
      · rw [if_neg c1] at hg
        by_cases c3 : d62 l[k].toNat < 0
        · rw [if_pos c3] at hg
          have HG := Lib.hid hg; clear hg
          go_wp2_with (first | (go_at_call 25; refine (doorDigit_any _ _).mono ?_; rintro e w' ⟨rfl, rfl⟩))
          go_ret3
          rw [← HG.out]; exact ⟨rfl, Below.refl _ _⟩
        · rw [if_neg c3] at hg
          by_cases c4 : n ≥ 72057594037927936
          · rw [if_pos c4] at hg
            have HG := Lib.hid hg; clear hg
            go_wp2_with (first | (go_at_call 25; refine (doorDigit_any _ _).mono ?_; rintro e w' ⟨rfl, rfl⟩))
            go_ret3
            rw [← HG.out]; exact ⟨rfl, Below.refl _ _⟩
          · rw [if_neg c4] at hg
            have HG := Lib.hid hg; clear hg
            go_wp2_with (first | (go_at_call 25; refine (doorDigit_any _ _).mono ?_; rintro e w' ⟨rfl, rfl⟩))
            go_round
            case rel => exact ⟨k + 1, _, by go_num, by go_num, by omega, HG, by omega, by omega⟩
            case measure => simp [intOf]; omega
    · obtain rfl : k = l.length := by omega
      have hg := hG.out; rw [List.drop_length, g62] at hg
      have HG := Lib.hid hg; clear hg hG
      go_wp2
      go_ret3
      rw [← HG.out]; exact ⟨rfl, Below.refl _ _⟩
/-- a number in decimal in front of a text, as the grammar says -/
def gd : List UInt8 → Nat → Int → Int × List UInt8 × Int
  | [], _, n => (n, [], 0)
  | c :: r, i, n => if isDig c.toNat = true then (if i = 9 then (0, [], 2) else gd r (i + 1) (10 * n + ((c.toNat : Int) - 48))) else (n, c :: r, 0)
def gdec : List UInt8 → Int × List UInt8 × Int
  | [] => (0, [], 1)
  | c :: r => if isDig c.toNat = false then (0, [], 2) else if c = 48 ∧ (match r with | [] => false | x :: _ => isDig x.toNat) = true then (0, [], 2) else gd (c :: r) 0 0
theorem c48t {c : UInt8} (h : (c.toNat : Int) = 48) : c = 48 := UInt8.toNat_inj.1 (by show c.toNat = 48; omega)
/-- the loop over the digits, and what follows -/
def sec (r : List UInt8) : Bool := match r with | [] => false | x :: _ => isDig x.toNat
theorem gdec_cons (c : UInt8) (r : List UInt8) : gdec (c :: r) = if isDig c.toNat = false then (0, [], 2) else if c = 48 ∧ sec r = true then (0, [], 2) else gd (c :: r) 0 0 := rfl
theorem pow9 : ∀ k : Nat, k < 10 → (10 : Int) ^ k ≤ 1000000000 := by decide
set_option maxHeartbeats 1000000 in
theorem doorDecimal_any (l : List UInt8) (w : World) (hl : l.length ≤ 2147483647) :
    Calls Try.prog 17 #[.string ⟨l.toArray⟩] w fun e w' => e = R3 (gdec l) ∧ Below w.heap.size w w' := by
  cases l with
  | nil =>
    go_enter Try.func17, Try.ntmps17
    go_wp2
    go_ret3
    exact ⟨rfl, Below.refl _ _⟩
  | cons c r =>
    have hcb : (c.toNat : Int) ≤ 255 := by have := c.toNat_lt; omega
    simp only [List.length_cons] at hl
    generalize hR : gdec (c :: r) = R
    have hg := hR; rw [gdec_cons] at hg
    clear hR
    cases hd : isDig c.toNat with
    | false =>
      rw [if_pos hd] at hg
      have HG := Lib.hid hg; clear hg
      go_enter Try.func17, Try.ntmps17
      go_wp2_with (first | (go_at_call 19; refine (idIsDigit_any _ _).mono ?_; rintro e w' ⟨rfl, rfl⟩))
      go_ret3
      rw [← HG.out]; exact ⟨rfl, Below.refl _ _⟩
    | true =>
      rw [if_neg (by simp [hd])] at hg
      by_cases h48 : c = 48 ∧ sec r = true
      · rw [if_pos h48] at hg
        have HG := Lib.hid hg; clear hg
        obtain ⟨rfl, hs⟩ := h48
        cases r with
        | nil => cases hs
        | cons x r =>
          have hs2 : isDig x.toNat = true := hs
          clear hs
          go_enter Try.func17, Try.ntmps17
          go_wp2_with (first | (go_at_call 19; refine (idIsDigit_any _ _).mono ?_; rintro e w' ⟨rfl, rfl⟩))
          go_ret3
          rw [← HG.out]; exact ⟨rfl, Below.refl _ _⟩
      · rw [if_neg h48] at hg
        have HG := Lib.hid hg; clear hg
        have hno : Hid (((c.toNat : Int) == 48) = false ∨ sec r = false) := by
          by_cases h : c = 48
          · exact .inr (by cases hb : sec r; rfl; exact absurd ⟨h, hb⟩ h48)
          · exact .inl (by simp; exact fun hc => h (c48t hc))
        clear h48
        go_enter Try.func17, Try.ntmps17
        go_upto_block 0 with fail
        go_cut [] (fun wc => w = wc)
        case first =>
          go_wp2_with (first | (go_at_call 19; refine (idIsDigit_any _ _).mono ?_; rintro e w' ⟨rfl, rfl⟩))
          · exfalso
            clear HG
            rcases hno.out with hn | hn <;> clear hno
            · simp_all
            · cases r with
              | nil => have h : (1 : Int) < (([] : List UInt8).length : Int) + 1 := (by assumption); simp at h
              | cons x r => have h : isDig (x.toNat : Int) = true := (by assumption); rw [show sec (x :: r) = isDig (x.toNat : Int) from rfl, h] at hn; cases hn
          all_goals (go_meet; exact rfl)
        case rest =>
          obtain rfl := hcut
          clear hno hd
          go_wp2
          go_loop [5, 6] (fun nv iv => ∃ (k : Nat) (n : Int), nv = .int .i64 n ∧ iv = .int .i64 k ∧ k ≤ r.length + 1 ∧ k ≤ 9 ∧ Hid (gd ((c :: r).drop k) k n = R) ∧ 0 ≤ n ∧ Hid (n < 10 ^ k)) (fun _ iv => r.length + 1 - (intOf iv).toNat)
          case atStart => exact ⟨0, 0, rfl, rfl, by omega, by omega, HG, by omega, by simp [Hid]⟩
          case round =>
            obtain ⟨k, n, rfl, rfl, hk, hk9, hG, n0, hn⟩ := hrel
            have hp : (10 : Int) ^ (k + 1) = 10 * 10 ^ k := by rw [Int.pow_succ]; omega
            have hp9 := pow9 k (by omega)
            have hn1 := hn.out
            by_cases hlt : k < (c :: r).length
            · have hdr : (c :: r).drop k = (c :: r)[k] :: (c :: r).drop (k + 1) := by rw [List.drop_eq_getElem_cons hlt]
              have hg := hG.out; rw [hdr, gd] at hg
              clear hdr hG
              have hcb2 : ((c :: r)[k].toNat : Int) ≤ 255 := by have := (c :: r)[k].toNat_lt; omega
              have hlt2 : (k : Int) < r.length + 1 := by simp at hlt; omega
              cases hd2 : isDig ((c :: r)[k].toNat : Int) with
              | false =>
                rw [if_neg (by simp [hd2])] at hg
                have HG2 := Lib.hid hg; clear hg
                clear hp hn1
                go_wp2_with (first | (go_at_call 19; refine (idIsDigit_any _ _).mono ?_; rintro e w' ⟨rfl, rfl⟩))
                go_quiet (fail)
                go_wp2
                go_ret3
                rw [← HG2.out]; refine ⟨by simp [R3, List.drop_eq_getElem_cons hlt], below_drewN w nq⟩
              | true =>
                rw [if_pos hd2] at hg
                have hd3 : 48 ≤ ((c :: r)[k].toNat : Int) ∧ ((c :: r)[k].toNat : Int) ≤ 57 := by simpa [isDig] using hd2
                obtain ⟨hd4, hd5⟩ := hd3
                by_cases h9 : k = 9
                · rw [if_pos h9] at hg
                  have HG2 := Lib.hid hg; clear hg
                  have h9b : ((k : Int) == 9) = true := by simp; omega
                  clear h9 hp hn1 hk9
                  go_wp2_with (first | (go_at_call 19; refine (idIsDigit_any _ _).mono ?_; rintro e w' ⟨rfl, rfl⟩))
                  go_ret3
                  rw [← HG2.out]; exact ⟨rfl, Below.refl _ _⟩
                · rw [if_neg h9] at hg
                  have HG2 := Lib.hid hg; clear hg
                  have HP := Lib.hid (And.intro hp hn); clear hp
                  go_wp2_with (first | (go_at_call 19; refine (idIsDigit_any _ _).mono ?_; rintro e w' ⟨rfl, rfl⟩))
                  go_round
                  case rel => exact ⟨k + 1, _, by go_num, by go_num, by omega, by omega, HG2, by omega, by have h1 := HP.out.1; have h2 := HP.out.2.out; show _ < _; omega⟩
                  case measure => simp [intOf]; omega
            · obtain rfl : k = r.length + 1 := by simp at hlt; omega
              have hg := hG.out; rw [show (c :: r).drop (r.length + 1) = [] from List.drop_eq_nil_of_le (by simp), gd] at hg
              have HG2 := Lib.hid hg; clear hg hG hp hn1
              go_wp2_with (first | (go_at_call 19; refine (idIsDigit_any _ _).mono ?_; rintro e w' ⟨rfl, rfl⟩))
              go_quiet (fail)
              go_wp2
              go_ret3
              rw [← HG2.out]; refine ⟨by simp [R3]; rfl, below_drewN w nq⟩
end Go.Proofs.Ytnmpcmhnnkddjaa
