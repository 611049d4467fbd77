/- Walks of the small functions on bytes and digits. -/
import Derived.Test.YtcelplibjhannaaDoorChecked
import Derived.Test.YtcelplibjhannaaDoorM
import Derived.WalkKit
import Derived.ProofKit
import Derived.WalkLawsBesides
import Derived.WalkSpells
import Derived.IntWalk
import Derived.Deep.QuietTactic
import Derived.BigQuiet
import Derived.Deep.DeepCutAuto
import Derived.Deep.LoopGhost
namespace Go.Proofs.YtcelplibjhannaaDoor
open Go.RowKit

theorem idIsDigit_any (c : Int) (w : World) :
    Calls Tryd.prog 14 #[.int .u8 c] w fun e w' => e = .returned (.bool (isDig c)) ∧ w = w' := by
  by_cases h1 : 48 ≤ c
  all_goals
    go_enter Tryd.func14, Tryd.ntmps14
    go_wp2
    go_ret
    exact ⟨by simp [isDig]; omega, rfl⟩
theorem isLet_t {c : Int} (h : (65 ≤ c ∧ c ≤ 90) ∨ (97 ≤ c ∧ c ≤ 122)) : isLet c = true := by simp [isLet]; omega
theorem isLet_f {c : Int} (h : ¬ ((65 ≤ c ∧ c ≤ 90) ∨ (97 ≤ c ∧ c ≤ 122))) : isLet c = false := by simp [isLet]; omega
theorem idIsLetter_any (c : Int) (w : World) :
    Calls Tryd.prog 15 #[.int .u8 c] w fun e w' => e = .returned (.bool (isLet c)) ∧ w = w' := by
  by_cases h1 : 65 ≤ c <;> by_cases h2 : c ≤ 90 <;> by_cases h3 : 97 ≤ c <;> by_cases h4 : c ≤ 122
  all_goals first
    | (exfalso; omega)
    | (first | rw [isLet_t (by omega)] | rw [isLet_f (by omega)]
       go_enter Tryd.func15, Tryd.ntmps15
       go_wp2
       go_ret
       exact ⟨by first | rfl | (simp; omega), rfl⟩)
theorem IdIsPlain_any (l : List UInt8) (w : World) (hl : l.length ≤ maxLen) :
    Calls Tryd.prog 10 #[.string ⟨l.toArray⟩] w fun e w' => e = .returned (.bool (l.all isPlain)) ∧ w = w' := by
  unfold maxLen at hl
  go_enter Tryd.func10, Tryd.ntmps10
  go_wp2
  go_loop [6] (fun i => ∃ k : Nat, k ≤ l.length ∧ i = .int .i64 k ∧ (l.take k).all isPlain = true) (fun i => l.length - (intOf i).toNat)
  case atStart => exact ⟨0, by omega, rfl, by simp⟩
  case round =>
    obtain ⟨k, hk, rfl, hp⟩ := hrel
    by_cases hlt : k < l.length
    · have hx : l.take (k + 1) = l.take k ++ [l[k]] := by rw [List.take_succ_eq_append_getElem hlt]
      have hd : isPlain l[k] = (isDig (l[k].toNat : Int) || decide ((l[k].toNat : Int) = 95) || isLet (l[k].toNat : Int)) := rfl
      have HX := Lib.hid (And.intro hx hd); clear hx hd
      have HP := Lib.hid hp; clear hp
      go_wp2_with (first | (go_at_call 14; refine (idIsDigit_any _ _).mono ?_; rintro e w' ⟨rfl, rfl⟩) | (go_at_call 15; refine (idIsLetter_any _ _).mono ?_; rintro e w' ⟨rfl, rfl⟩))
      all_goals first
        | (go_round
           case rel => exact ⟨k + 1, by omega, by go_num, by rw [HX.out.1, List.all_append, HP.out]; simp_all [HX.out.2]⟩
           case measure => simp [intOf]; omega)
        | (go_ret
           have hn : isPlain l[k] = false := by rw [HX.out.2]; simp_all
           have ha : l.all isPlain = false := by rw [List.all_eq_false]; exact ⟨_, List.getElem_mem hlt, by simp [hn]⟩
           exact ⟨by rw [ha]; rfl, rfl⟩)
    · obtain rfl : k = l.length := by omega
      go_wp2
      go_ret
      exact ⟨by rw [List.take_length] at hp; rw [hp]; rfl, rfl⟩
theorem idDigit_any (c : Int) (w : World) (h0 : 0 ≤ c) (h1 : c ≤ 255) :
    Calls Tryd.prog 23 #[.int .u8 c] w fun e w' => e = .returned (.int .i64 (digV c)) ∧ w = w' := by
  unfold digV
  by_cases a : 97 ≤ c <;> by_cases b : c ≤ 122 <;> by_cases d : 48 ≤ c <;> by_cases f : c ≤ 57
  all_goals first
    | (exfalso; omega)
    | (go_enter Tryd.func23, Tryd.ntmps23
       go_wp2_with (first | (go_at_call 14; refine (idIsDigit_any _ _).mono ?_; rintro e w' ⟨rfl, rfl⟩))
       all_goals first
         | (exfalso; have hd := ‹isDig c = _›; simp [isDig] at hd; omega)
         | (go_ret; exact ⟨rfl, rfl⟩))
theorem idDigit_b (c : UInt8) (w : World) :
    Calls Tryd.prog 23 #[.int .u8 (c.toNat : Int)] w fun e w' => e = .returned (.int .i64 (digV c.toNat)) ∧ w = w' :=
  idDigit_any _ w (by omega) (by have := c.toNat_lt; omega)
theorem idThreshold_any (p b : Int) (w : World) (h0 : 0 ≤ p) (h1 : p ≤ 1099511627776) (h2 : 0 ≤ b) (h3 : b ≤ 1000000) :
    Calls Tryd.prog 24 #[.int .i64 p, .int .i64 b] w fun e w' => e = .returned (.int .i64 (thr p b)) ∧ w = w' := by
  have ht : thr p b = min (max (36 * p - b) 1) 26 := rfl
  by_cases a1 : 36 * p - b < 1
  · obtain ⟨r, hr, hr'⟩ : ∃ r, thr p b = r ∧ r = 1 := ⟨_, rfl, by omega⟩
    rw [hr]; clear ht hr; subst hr'
    go_enter Tryd.func24, Tryd.ntmps24
    go_wp2
    all_goals first | (exfalso; simp_all; done) | (exfalso; simp_all; omega) | (go_ret; exact ⟨rfl, rfl⟩)
  · by_cases a2 : 36 * p - b > 26
    · obtain ⟨r, hr, hr'⟩ : ∃ r, thr p b = r ∧ r = 26 := ⟨_, rfl, by omega⟩
      rw [hr]; clear ht hr; subst hr'
      go_enter Tryd.func24, Tryd.ntmps24
      go_wp2
      all_goals first | (go_ret; exact ⟨rfl, rfl⟩) | (exfalso; simp_all; done) | (exfalso; simp_all; omega)
    · obtain ⟨r, hr, hr'⟩ : ∃ r, thr p b = r ∧ r = 36 * p - b := ⟨_, rfl, by omega⟩
      rw [hr]; clear ht hr; subst hr'
      go_enter Tryd.func24, Tryd.ntmps24
      go_wp2
      all_goals first | (go_ret; exact ⟨rfl, rfl⟩) | (exfalso; simp_all; done) | (exfalso; simp_all; omega)
theorem idIsScalar_any (c : Int) (w : World) :
    Calls Tryd.prog 18 #[.int .i64 c] w fun e w' => e = .returned (.bool (scalar c)) ∧ w = w' := by
  by_cases h1 : c < 55296 <;> by_cases h2 : 57343 < c <;> by_cases h3 : c ≤ 1114111
  all_goals
    go_enter Tryd.func18, Tryd.ntmps18
    go_wp2
    go_ret
    exact ⟨by simp [scalar, h1, h2, h3], rfl⟩
theorem ad_fits (d m : Int) (f : Bool) (h0 : 0 ≤ d) (h1 : d ≤ 1099511627776) (hm : 1 ≤ m) : 0 ≤ ad0 d m f ∧ ad0 d m f ≤ 1099511627776 := by
  have hx : 0 ≤ (if f then d / 700 else d / 2) ∧ (if f then d / 700 else d / 2) ≤ 549755813888 := by split <;> omega
  unfold ad0
  have h2 := Int.ediv_nonneg hx.1 (show (0:Int) ≤ m by omega)
  have h3 := Int.ediv_le_self m hx.1
  omega
set_option maxHeartbeats 400000 in
theorem idAdapted_any (d m : Int) (f : Bool) (w : World) (h0 : 0 ≤ d) (h1 : d ≤ 1099511627776) (hm : 1 ≤ m) (hm2 : m ≤ 1099511627776) :
    Calls Tryd.prog 17 #[.int .i64 d, .int .i64 m, .bool f] w fun e w' => e = .returned (.int .i64 (adapt d m f)) ∧ w = w' := by
  have hq := ad_fits d m f h0 h1 hm
  have hz := Lib.hid (show ad0 d m f = (if f then d / 700 else d / 2) + (if f then d / 700 else d / 2) / m from rfl)
  have he := Lib.hid (adLoop_end 16 (ad0 d m f) 0 hq.1 (by omega))
  have hb := Lib.hid (adLoop_bd 16 (ad0 d m f) 0 hq.1 (by omega))
  have ha := Lib.hid (show adapt d m f = (adLoop 16 (ad0 d m f) 0).2 + 36 * (adLoop 16 (ad0 d m f) 0).1 / ((adLoop 16 (ad0 d m f) 0).1 + 38) from rfl)
  generalize ad0 d m f = q at *
  generalize adapt d m f = r at *
  obtain ⟨q0, q1⟩ := hq
  have g1 : 0 ≤ d / 700 / m := Int.ediv_nonneg (by omega) (by omega)
  have g2 : d / 700 / m ≤ d / 700 := Int.ediv_le_self m (by omega)
  have g3 : 0 ≤ d / 2 / m := Int.ediv_nonneg (by omega) (by omega)
  have g4 : d / 2 / m ≤ d / 2 := Int.ediv_le_self m (by omega)
  cases f
  all_goals
    go_enter Tryd.func17, Tryd.ntmps17
    go_wp2
    go_loop [0, 7] (fun dv kv => ∃ (n : Nat) (x k : Int), dv = .int .i64 x ∧ kv = .int .i64 k ∧ Hid (adLoop 16 q 0 = adLoop n x k) ∧ 0 ≤ x ∧ x ≤ 1099511627776 ∧ 0 ≤ k ∧ k + 36 * n ≤ 576) (fun dv _ => (intOf dv).toNat)
    case atStart => exact ⟨16, _, 0, rfl, rfl, by have := hz.out; simp at this; rw [this]; rfl, by omega, by omega, by omega, by omega⟩
    case round =>
      obtain ⟨n, x, k, rfl, rfl, hl, x0, x1, k0, k1⟩ := hrel
      by_cases hx : x > 455
      · obtain ⟨n', rfl⟩ : ∃ n', n = n' + 1 := ⟨n - 1, by
          cases n with
          | zero => have h1 := hl.out; have h2 := he.out; rw [h1] at h2; simp [adLoop] at h2; omega
          | succ n => rfl⟩
        have hl2 : Hid (adLoop 16 q 0 = adLoop n' (x / 35) (k + 36)) := by have := hl.out; rw [show adLoop (n' + 1) x k = adLoop n' (x / 35) (k + 36) from by rw [adLoop, if_pos hx]] at this; exact this
        clear hl
        have y0 : 0 ≤ x / 35 := by omega
        go_wp2
        go_round
        case rel => exact ⟨n', _, _, rfl, rfl, hl2, y0, by omega, by omega, by omega⟩
        case measure => simp [intOf]; omega
      · have hl2 : Hid (adLoop 16 q 0 = (x, k)) := by
          have := hl.out; rw [this]
          show adLoop n x k = (x, k)
          cases n with
          | zero => rfl
          | succ n => rw [adLoop, if_neg hx]
        clear hl
        have hx' : x ≤ 455 := by omega
        have z0 : 0 ≤ 36 * x / (x + 38) := Int.ediv_nonneg (by omega) (by omega)
        have z1 : 36 * x / (x + 38) ≤ 36 := Int.ediv_le_of_le_mul (by omega) (by omega)
        go_wp2
        go_ret
        refine ⟨?_, rfl⟩
        have h1 := ha.out; rw [hl2.out] at h1; rw [h1]; rfl
end Go.Proofs.YtcelplibjhannaaDoor
