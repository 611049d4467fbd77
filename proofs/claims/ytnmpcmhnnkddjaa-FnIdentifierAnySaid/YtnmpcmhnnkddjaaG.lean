/- The walk of the reference's reader of an identifier in front of a text, and what it has to do with the program's. -/
import Derived.Test.YtnmpcmhnnkddjaaF
import Derived.Test.YtnmpcmhnnkddjaaV
import Derived.Deep.DeepCutAuto
namespace Go.Proofs.Ytnmpcmhnnkddjaa
open Go.RowKit

/-- an identifier behind its disambiguator, as the grammar says -/
def gidR (dis : Int) (l : List UInt8) : Int × List UInt8 × List UInt8 × Int :=
  let u := decide (l.head? = some 117)
  let l1 := if u then l.tail else l
  match gdec l1 with
  | (v, l2, s) =>
    if s ≠ 0 then (0, [], [], s)
    else
      let l3 := if l2.head? = some 95 then l2.tail else l2
      if (l3.length : Int) < v then (0, [], [], 1)
      else match told (l3.take v.toNat) u with
        | none => (0, [], [], 2)
        | some t => (dis, t, l3.drop v.toNat, 0)
/-- an identifier in front of a text, as the grammar says -/
def gid (l : List UInt8) : Int × List UInt8 × List UInt8 × Int :=
  if l.head? = some 115 then
    (match g62 l.tail true 0 with
    | (x, r, s) => if s ≠ 0 then (0, [], [], s) else gidR (x + 1) r)
  else gidR 0 l
/-- what follows the length -/
def gidT (d : Int) (u : Bool) (v : Int) (l3 : List UInt8) : Int × List UInt8 × List UInt8 × Int :=
  if (l3.length : Int) < v then (0, [], [], 1)
  else match told (l3.take v.toNat) u with
    | none => (0, [], [], 2)
    | some t => (d, t, l3.drop v.toNat, 0)
theorem gid_s {c : UInt8} {r r2 : List UInt8} {x s : Int} (h : decide ((c :: r).head? = some 115) = true) (hy : g62 r true 0 = (x, r2, s)) : gid (c :: r) = if s = 0 then gidR (x + 1) r2 else (0, [], [], s) := by
  have h1 : (c :: r).head? = some 115 := by simpa using h
  unfold gid
  rw [if_pos h1]
  simp only [List.tail_cons, hy]
  by_cases h0 : s = 0 <;> simp [h0]
theorem gid_n {l : List UInt8} (h : decide (l.head? = some 115) = false) : gid l = gidR 0 l := by
  have h1 : ¬ l.head? = some 115 := by simpa using h
  unfold gid; rw [if_neg h1]
theorem gidR_eq {l1 l2 l3 : List UInt8} {u : Bool} {v s : Int} (d : Int) (hu : decide (l1.head? = some 117) = u) (hl : (if u = true then l1.tail else l1) = l2) (hy : gdec l2 = (v, l3, s)) :
    gidR d l1 = if s = 0 then gidT d u v (if l3.head? = some 95 then l3.tail else l3) else (0, [], [], s) := by
  unfold gidR gidT
  simp only [hu, hl, hy]
  by_cases h0 : s = 0 <;> simp [h0]
def R4 (x : Int × List UInt8 × List UInt8 × Int) : Ending := .returned (.tuple #[.int .i64 x.1, .string ⟨x.2.1.toArray⟩, .string ⟨x.2.2.1.toArray⟩, .int .i64 x.2.2.2])
theorem pow8 : ∀ k : Nat, k < 9 → (10 : Int) ^ k ≤ 100000000 := by decide
theorem wrap64_in {a : Int} (h0 : -9223372036854775808 ≤ a) (h1 : a ≤ 9223372036854775807) : wrap64 a = a := by
  unfold wrap64; omega
theorem g62_bd : ∀ (l : List UInt8) (f : Bool) (n : Int), 0 ≤ n → n ≤ 4467570830351532093 → (g62 l f n).2.1.length ≤ l.length ∧ 0 ≤ (g62 l f n).1 ∧ (g62 l f n).1 ≤ 4467570830351532094
  | [], _, n, h0, h1 => by simp [g62]
  | c :: r, f, n, h0, h1 => by
    have hd := d62_bd c.toNat
    unfold g62
    split
    · refine ⟨by simp, ?_⟩; simp only; split <;> omega
    · split
      · simp
      · split
        · simp
        · have := g62_bd r false (62 * n + d62 c.toNat) (by omega) (by omega)
          refine ⟨by simp only [List.length_cons]; omega, this.2⟩
theorem gd_bd : ∀ (l : List UInt8) (i : Nat) (n : Int), 0 ≤ n → i ≤ 9 → n < 10 ^ i → (gd l i n).2.1.length ≤ l.length ∧ 0 ≤ (gd l i n).1 ∧ (gd l i n).1 < 1000000000
  | [], i, n, h0, h1, h2 => by have := pow9 i (by omega); simp [gd]; omega
  | c :: r, i, n, h0, h1, h2 => by
    have hp := pow9 i (by omega)
    have hq : (10 : Int) ^ (i + 1) = 10 * 10 ^ i := by rw [Int.pow_succ]; omega
    unfold gd
    split
    · rename_i hd
      simp [isDig] at hd
      split
      · simp
      · have := gd_bd r (i + 1) (10 * n + ((c.toNat : Int) - 48)) (by omega) (by omega) (by omega)
        refine ⟨by simp only [List.length_cons]; omega, this.2⟩
    · refine ⟨by simp, ?_⟩; simp only; omega
theorem gdec_bd (l : List UInt8) : (gdec l).2.1.length ≤ l.length ∧ 0 ≤ (gdec l).1 ∧ (gdec l).1 < 1000000000 := by
  cases l with
  | nil => simp [gdec]
  | cons c r =>
    rw [gdec_cons]
    split
    · simp
    · split
      · simp
      · exact gd_bd _ 0 0 (by omega) (by omega) (by simp)
theorem results_tmp4 {fn : Func} {t u v x : Tmp} (h : fn.results = #[.tmp t, .tmp u, .tmp v, .tmp x]) (tmps : Array Value) (P : Program) (w : World) :
    (results fn tmps).run P w = .ok (.tuple #[tmps.getD t undef, tmps.getD u undef, tmps.getD v undef, tmps.getD x undef]) w := by
  simp [results, h]
theorem headIs (k c : UInt8) (r : List UInt8) (u : Bool) (h : decide ((c :: r).head? = some k) = u) : ((c.toNat : Int) == (k.toNat : Int)) = u := by
  rw [← h]
  by_cases hc : c = k
  · subst hc; simp
  · have : ¬ (c.toNat : Int) = (k.toNat : Int) := fun h => hc (UInt8.toNat_inj.1 (Int.ofNat_inj.1 h))
    simp [this, hc]
set_option maxHeartbeats 1000000 in
theorem doorIdentifier_any (l : List UInt8) (w : World) (hl : l.length ≤ 2147483647) :
    Calls Try.prog 8 #[.string ⟨l.toArray⟩] w fun e w' => e = R4 (gid l) ∧ Below w.heap.size w w' := by
  generalize hR : gid l = R
  obtain ⟨u, hu⟩ : ∃ u, decide (l.head? = some 115) = u := ⟨_, rfl⟩
  have HR := Lib.hid hR; clear hR
  go_enter Try.func8, Try.ntmps8
  go_upto_region 2 with fail
  go_cut [18] (fun bv wc => bv = .bool u ∧ w = wc)
  case first =>
    cases l with
    | nil =>
      simp at hu; subst hu
      go_wp2
      go_meet
      exact ⟨rfl, rfl⟩
    | cons c r =>
      have e1 := headIs 115 c r u hu
      clear hu
      go_wp2
      all_goals (go_meet; exact ⟨by simp_all, rfl⟩)
  case rest =>
  obtain ⟨rfl, rfl⟩ := hcut
  go_upto_if 18 with fail
  go_cut [0, 6] (fun lv dv wc => ∃ (l1 : List UInt8) (d : Int), lv = .string ⟨l1.toArray⟩ ∧ dv = .int .i64 d ∧ l1.length ≤ 2147483647 ∧ 0 ≤ d ∧ d ≤ 4467570830351532095 ∧ Hid (gidR d l1 = R) ∧ Hid (Below w.heap.size w wc))
  case first =>
    cases u with
    | false =>
      have hg : Hid (gidR 0 l = R) := by rw [Hid, ← gid_n hu]; exact HR.out
      clear HR hu
      go_wp2
      go_meet
      exact ⟨l, 0, rfl, rfl, hl, by omega, by omega, hg, Below.refl _ _⟩
    | true =>
      cases l with
      | nil => simp at hu
      | cons c r =>
        have hc := headIs 115 c r true hu
        have hc2 : (c.toNat : Int) = 115 := by simpa using hc
        simp only [List.length_cons] at hl
        have HC := doorBase62_any r w (by omega)
        have hb := g62_bd r true 0 (by omega) (by omega)
        obtain ⟨⟨x, r2, s⟩, hy⟩ : ∃ y, g62 r true 0 = y := ⟨_, rfl⟩
        have hg := HR.out; rw [gid_s hu hy] at hg
        clear HR hu hc
        simp only [hy, R3] at HC hb
        obtain ⟨b1, b2, b3⟩ := hb
        by_cases h0 : s = 0
        · subst h0
          rw [if_pos rfl] at hg
          have HG := Lib.hid hg; clear hg hy
          go_wp2_with (go_at_call 16; refine HC.mono ?_; rintro e w1 ⟨rfl, hb1⟩; have HB1 := Lib.hid hb1; clear hb1)
          go_meet
          exact ⟨r2, x + 1, rfl, rfl, by omega, by omega, by omega, HG, HB1⟩
        · rw [if_neg h0] at hg
          have HG := Lib.hid hg; clear hg hy
          go_wp2_with (go_at_call 16; refine HC.mono ?_; rintro e w1 ⟨rfl, hb1⟩; have HB1 := Lib.hid hb1; clear hb1)
          ((try simp only [Exit.inBlock, Exit.then]); refine bodyPost_ret (results_tmp4 rfl _ _ _) rfl ?_)
          rw [← HG.out]; exact ⟨rfl, HB1.out⟩
  case rest =>
    obtain ⟨l1, d, rfl, rfl, hl1, d0, d1, HR, HB⟩ := hcut
    clear hu
    obtain ⟨u2, hu2⟩ : ∃ u2, decide (l1.head? = some 117) = u2 := ⟨_, rfl⟩
    obtain ⟨l2, hl2⟩ : ∃ l2, (if u2 = true then l1.tail else l1) = l2 := ⟨_, rfl⟩
    have hle2 : l2.length ≤ l1.length := by rw [← hl2]; split <;> simp
    have HC := doorDecimal_any l2
    have hb := gdec_bd l2
    obtain ⟨⟨v, l3, s⟩, hy⟩ : ∃ y, gdec l2 = y := ⟨_, rfl⟩
    have hg := HR.out; rw [gidR_eq d hu2 hl2 hy] at hg
    simp only [hy, R3] at HC hb
    have HG := Lib.hid hg; clear hg HR hy
    go_upto_region 7 with fail
    go_cut [8] (fun bv w2 => bv = .bool u2 ∧ wc = w2)
    case first =>
      cases l1 with
      | nil =>
        simp at hu2; subst hu2
        clear hl2
        go_wp2
        go_meet
        exact ⟨rfl, rfl⟩
      | cons c r =>
        have e1 := headIs 117 c r u2 hu2
        clear hu2 hl2
        go_wp2
        all_goals (go_meet; exact ⟨by simp_all, rfl⟩)
    case rest =>
    obtain ⟨rfl, rfl⟩ := hcut
    go_upto_if 38 with fail
    go_cut [0] (fun lv w2 => lv = .string ⟨l2.toArray⟩ ∧ wc = w2)
    case first =>
      cases u2 with
      | false =>
        have e2 : Hid (l1 = l2) := by show l1 = l2; simpa using hl2
        clear hu2 hl2
        go_wp2
        go_meet
        exact ⟨by rw [e2.out], rfl⟩
      | true =>
        cases l1 with
        | nil => simp at hu2
        | cons c r =>
          have e2 : Hid (r = l2) := by show r = l2; simpa using hl2
          clear hu2 hl2
          go_wp2
          go_meet
          exact ⟨by rw [e2.out], rfl⟩
    case rest =>
    obtain ⟨rfl, rfl⟩ := hcut
    clear hu2 hl2
    have HC := HC wc (by omega)
    have hg := HG.out; clear HG
    obtain ⟨b1, b2, b3⟩ := hb
    by_cases h0 : s = 0
    · subst h0
      rw [if_pos rfl] at hg
      have HG := Lib.hid hg; clear hg
      go_upto_region 13 with (go_at_call 17; refine HC.mono ?_; rintro e w1 ⟨rfl, hb1⟩; have HB1 := Lib.hid (HB.out.trans (hb1.mono HB.out.size)); clear hb1)
      obtain ⟨u3, hu3⟩ : ∃ u3, decide (l3.head? = some 95) = u3 := ⟨_, rfl⟩
      obtain ⟨l4, hl4⟩ : ∃ l4, (if l3.head? = some 95 then l3.tail else l3) = l4 := ⟨_, rfl⟩
      have hle4 : l4.length ≤ l3.length := by rw [← hl4]; split <;> simp
      rw [hl4] at HG
      go_cut [56] (fun bv w2 => bv = .bool u3 ∧ w1 = w2)
      case first =>
        cases l3 with
        | nil =>
          simp at hu3; subst hu3
          clear hl4
          go_wp2
          go_meet
          exact ⟨rfl, rfl⟩
        | cons c r =>
          have e1 := headIs 95 c r u3 hu3
          clear hu3 hl4
          go_wp2
          all_goals (go_meet; exact ⟨by simp_all, rfl⟩)
      case rest =>
      obtain ⟨rfl, rfl⟩ := hcut
      go_upto_if 56 with fail
      go_cut [0] (fun lv w2 => lv = .string ⟨l4.toArray⟩ ∧ w1 = w2)
      case first =>
        cases u3 with
        | false =>
          have h1 : ¬ l3.head? = some 95 := by simpa using hu3
          have e2 : Hid (l3 = l4) := by rw [if_neg h1] at hl4; exact hl4
          clear hu3 hl4 h1
          go_wp2
          go_meet
          exact ⟨by rw [e2.out], rfl⟩
        | true =>
          have h1 : l3.head? = some 95 := by simpa using hu3
          cases l3 with
          | nil => simp at hu3
          | cons c r =>
            have e2 : Hid (r = l4) := by rw [if_pos h1] at hl4; exact hl4
            clear hu3 hl4 h1
            go_wp2
            go_meet
            exact ⟨by rw [e2.out], rfl⟩
      case rest =>
      obtain ⟨rfl, rfl⟩ := hcut
      clear hu3 hl4
      have hg := HG.out; unfold gidT at hg
      clear HG
      by_cases hsh : (l4.length : Int) < v
      · rw [if_pos hsh] at hg
        have HG := Lib.hid hg; clear hg
        go_wp2
        ((try simp only [Exit.inBlock, Exit.then]); refine bodyPost_ret (results_tmp4 rfl _ _ _) rfl ?_)
        rw [← HG.out]; exact ⟨rfl, HB1.out⟩
      · rw [if_neg hsh] at hg
        have HT := IdTold_any (l4.take v.toNat) u2 w1 (by simp; omega)
        obtain ⟨x, hx⟩ : ∃ x, told (l4.take v.toNat) u2 = x := ⟨_, rfl⟩
        rw [hx] at hg HT
        clear hx
        cases x with
        | none =>
          have HG := Lib.hid hg; clear hg
          go_wp2_with (go_at_call 6; refine HT.mono ?_; rintro e w2 ⟨⟨y, rfl⟩, hb1⟩; have HB2 := Lib.hid (HB1.out.trans (hb1.mono HB1.out.size)); clear hb1)
          ((try simp only [Exit.inBlock, Exit.then]); refine bodyPost_ret (results_tmp4 rfl _ _ _) rfl ?_)
          rw [← HG.out]; exact ⟨rfl, HB2.out⟩
        | some t =>
          have HG := Lib.hid hg; clear hg
          go_upto_region 20 with (go_at_call 6; refine HT.mono ?_; rintro e w2 ⟨h, hb1⟩; obtain rfl := h; have HB2 := Lib.hid (HB1.out.trans (hb1.mono HB1.out.size)); clear hb1)
          go_quiet (fail)
          go_wp2
          ((try simp only [Exit.inBlock, Exit.then]); refine bodyPost_ret (results_tmp4 rfl _ _ _) rfl ?_)
          rw [← HG.out]; exact ⟨rfl, HB2.out.trans ((below_drewN w2 nq).mono HB2.out.size)⟩
    · rw [if_neg h0] at hg
      have HG := Lib.hid hg; clear hg
      go_wp2_with (go_at_call 17; refine HC.mono ?_; rintro e w1 ⟨rfl, hb1⟩; have HB1 := Lib.hid (HB.out.trans (hb1.mono HB.out.size)); clear hb1)
      ((try simp only [Exit.inBlock, Exit.then]); refine bodyPost_ret (results_tmp4 rfl _ _ _) rfl ?_)
      rw [← HG.out]; exact ⟨rfl, HB1.out⟩
/-- what the grammar tells of a number in base 62, the program reads -/
theorem g62_told : ∀ (l : List UInt8) (n x : Int) (r : List UInt8), 0 ≤ n → n ≤ 4467570830351532093 → g62 l false n = (x, r, 0) → p62 l n = some (x, r)
  | [], n, x, r, _, _, h => by simp [g62] at h
  | c :: l, n, x, r, h0, h1, h => by
    have hd := d62_bd c.toNat
    unfold g62 at h; unfold p62
    by_cases c1 : (c.toNat : Int) = 95
    · rw [if_pos c1] at h ⊢
      simp at h
      rw [← h.1, ← h.2, wrap64_in (by omega) (by omega)]
    · rw [if_neg c1] at h ⊢
      by_cases c2 : d62 c.toNat < 0
      · rw [if_pos c2] at h; simp at h
      · rw [if_neg c2] at h ⊢
        by_cases c3 : n ≥ 72057594037927936
        · rw [if_pos c3] at h; simp at h
        · rw [if_neg c3] at h
          rw [wrap64_in (a := n * 62) (by omega) (by omega), wrap64_in (by omega) (by omega), Int.mul_comm n 62]
          exact g62_told l _ x r (by omega) (by omega) h
theorem g62_refused : ∀ (l : List UInt8) (n x : Int) (r : List UInt8), 0 ≤ n → n ≤ 4467570830351532093 → g62 l false n = (x, r, 1) → p62 l n = none
  | [], n, x, r, _, _, h => by simp [p62]
  | c :: l, n, x, r, h0, h1, h => by
    have hd := d62_bd c.toNat
    unfold g62 at h; unfold p62
    by_cases c1 : (c.toNat : Int) = 95
    · rw [if_pos c1] at h; simp at h
    · rw [if_neg c1] at h ⊢
      by_cases c2 : d62 c.toNat < 0
      · rw [if_pos c2]
      · rw [if_neg c2] at h ⊢
        by_cases c3 : n ≥ 72057594037927936
        · rw [if_pos c3] at h; simp at h
        · rw [if_neg c3] at h
          rw [wrap64_in (a := n * 62) (by omega) (by omega), wrap64_in (by omega) (by omega), Int.mul_comm n 62]
          exact g62_refused l _ x r (by omega) (by omega) h
theorem g62_first (c : UInt8) (l : List UInt8) (h : ¬ (c.toNat : Int) = 95) : g62 (c :: l) true 0 = g62 (c :: l) false 0 := by
  unfold g62; rw [if_neg h, if_neg h]
theorem b62_told {l : List UInt8} {x : Int} {r : List UInt8} (h : g62 l true 0 = (x, r, 0)) : b62 l = some (x, r) := by
  cases l with
  | nil => simp [g62] at h
  | cons c l =>
    unfold b62
    by_cases hc : (c.toNat : Int) = 95
    · have := (c95 c).1 hc; subst this
      simp [g62] at h
      simp [h]
    · rw [g62_first c l hc] at h
      rw [if_neg (by simpa using fun h => hc ((c95 c).2 h))]
      exact g62_told _ 0 _ _ (by omega) (by omega) h
theorem b62_refused {l : List UInt8} {x : Int} {r : List UInt8} (h : g62 l true 0 = (x, r, 1)) : b62 l = none := by
  cases l with
  | nil => simp [b62, p62]
  | cons c l =>
    unfold b62
    by_cases hc : (c.toNat : Int) = 95
    · have := (c95 c).1 hc; subst this
      simp [g62] at h
    · rw [g62_first c l hc] at h
      rw [if_neg (by simpa using fun h => hc ((c95 c).2 h))]
      exact g62_refused _ 0 _ _ (by omega) (by omega) h
theorem gd_told : ∀ (l : List UInt8) (i : Nat) (n x s : Int) (r : List UInt8), 0 ≤ n → i ≤ 9 → n < 10 ^ i → gd l i n = (x, r, s) → s ≠ 1 ∧ (s = 0 → pdec l n = some (x, r))
  | [], i, n, x, s, r, _, _, _, h => by simp [gd] at h; obtain ⟨rfl, rfl, rfl⟩ := h; simp [pdec]
  | c :: l, i, n, x, s, r, h0, h1, h2, h => by
    have hq : (10 : Int) ^ (i + 1) = 10 * 10 ^ i := by rw [Int.pow_succ]; omega
    unfold gd at h; unfold pdec
    by_cases hd : isDig c.toNat = true
    · have hd2 := hd
      simp [isDig] at hd2
      rw [if_pos hd] at h ⊢
      by_cases h9 : i = 9
      · rw [if_pos h9] at h; simp at h; obtain ⟨-, -, rfl⟩ := h; simp
      · rw [if_neg h9] at h
        have h8 := pow8 i (by omega)
        rw [if_neg (by omega), Int.mul_comm n 10]
        exact gd_told l (i + 1) _ x s r (by omega) (by omega) (by omega) h
    · rw [if_neg hd] at h ⊢
      simp at h; obtain ⟨rfl, rfl, rfl⟩ := h; simp
theorem decN_told {l : List UInt8} {x s : Int} {r : List UInt8} (h : gdec l = (x, r, s)) : (s = 0 → decN l = some (x, r)) ∧ (s = 1 → decN l = none) := by
  cases l with
  | nil => simp [gdec] at h; obtain ⟨rfl, rfl, rfl⟩ := h; simp [decN]
  | cons c l =>
    rw [gdec_cons] at h
    split at h
    · simp at h; obtain ⟨-, -, rfl⟩ := h; simp
    · split at h
      · simp at h; obtain ⟨-, -, rfl⟩ := h; simp
      · have := gd_told _ 0 0 x s r (by omega) (by omega) (by simp) h
        refine ⟨fun h0 => by unfold decN; rw [if_neg (by simp)]; exact this.2 h0, fun h1 => absurd h1 this.1⟩
theorem told_isPlain {l t : List UInt8} {p : Bool} (h : told l p = some t) : l.all isPlain = true := by
  unfold told at h
  by_cases h1 : l.all isPlain = true
  · exact h1
  · simp [h1] at h
theorem gidR_told {d d2 s : Int} {l t r : List UInt8} (h : gidR d l = (d2, t, r, s)) : (s = 0 → d2 = d ∧ ∃ u, undN l = some (some (t, u, r))) ∧ (s = 1 → undN l = some none) := by
  obtain ⟨⟨v, l3, s1⟩, hy⟩ : ∃ y, gdec (if decide (l.head? = some 117) = true then l.tail else l) = y := ⟨_, rfl⟩
  rw [gidR_eq d rfl rfl hy] at h
  have hd := decN_told hy
  clear hy
  by_cases h0 : s1 = 0
  · rw [if_pos h0] at h
    have hd1 := hd.1 h0
    clear hd h0
    unfold gidT at h
    unfold undN
    simp only [hd1]
    generalize (if l3.head? = some 95 then l3.tail else l3) = l4 at *
    generalize decide (l.head? = some 117) = u at *
    by_cases hs : (l4.length : Int) < v
    · rw [if_pos hs] at h ⊢
      simp at h
      obtain ⟨-, -, -, rfl⟩ := h
      simp
    · rw [if_neg hs] at h ⊢
      cases ht : told (l4.take v.toNat) u with
      | none =>
        rw [ht] at h
        simp at h
        obtain ⟨-, -, -, rfl⟩ := h
        simp
      | some t2 =>
        rw [ht] at h
        simp at h
        obtain ⟨rfl, rfl, rfl, rfl⟩ := h
        rw [told_isPlain ht]
        simp
  · rw [if_neg h0] at h
    simp at h
    obtain ⟨-, -, -, rfl⟩ := h
    refine ⟨fun h => absurd h h0, fun h => ?_⟩
    unfold undN
    simp only [hd.2 h]
theorem gid_says {d s : Int} {l t r : List UInt8} (h : gid l = (d, t, r, s)) : (s = 0 → idN l = some (some (d, t, r))) ∧ (s = 1 → idN l = some none) := by
  by_cases hs : decide (l.head? = some 115) = true
  · cases l with
    | nil => simp at hs
    | cons c l =>
      have hs2 : (c :: l).head? = some 115 := by simpa using hs
      obtain ⟨⟨x, r2, s1⟩, hy⟩ : ∃ y, g62 l true 0 = y := ⟨_, rfl⟩
      rw [gid_s hs hy] at h
      unfold idN disN
      rw [if_pos hs2, List.tail_cons]
      by_cases h0 : s1 = 0
      · subst h0
        rw [if_pos rfl] at h
        have hb := g62_bd l true 0 (by omega) (by omega)
        rw [hy] at hb
        simp only at hb
        rw [b62_told hy]
        simp only [Option.map_some]
        rw [wrap64_in (by omega) (by omega)]
        have hr := gidR_told h
        refine ⟨fun h => ?_, fun h => ?_⟩
        · obtain ⟨rfl, u, hu⟩ := hr.1 h
          rw [hu]; rfl
        · rw [hr.2 h]; rfl
      · rw [if_neg h0] at h
        simp at h
        obtain ⟨-, -, -, rfl⟩ := h
        refine ⟨fun h => absurd h h0, fun h => ?_⟩
        subst h
        rw [b62_refused hy]; rfl
  · have hs2 : ¬ l.head? = some 115 := by simpa using hs
    rw [gid_n (by simpa using hs)] at h
    unfold idN disN
    rw [if_neg hs2]
    have hr := gidR_told h
    refine ⟨fun h => ?_, fun h => ?_⟩
    · obtain ⟨rfl, u, hu⟩ := hr.1 h
      simp only [hu]; rfl
    · simp only [hr.2 h]; rfl
end Go.Proofs.Ytnmpcmhnnkddjaa
