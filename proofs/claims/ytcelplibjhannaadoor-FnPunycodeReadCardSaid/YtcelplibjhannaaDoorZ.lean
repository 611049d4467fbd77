/- What the statement's own name is read as, and the statement's walk. -/
import Derived.Test.YtcelplibjhannaaDoorY
import Derived.Test.YtcelplibjhannaaDoorE
import Derived.Test.YtcelplibjhannaaDoorD
import Derived.Lib.SmallJoins
import Derived.Lib.AppendIntMem
namespace Go.Proofs.YtcelplibjhannaaDoor
open Go.RowKit

theorem pdec_one (n : Nat) (h : n < 10) (r : List UInt8) (v : Nat) (hv : v ≤ 200000000) : pdec (UInt8.ofNat (48 + n) :: r) v = pdec r ((v * 10 + n : Nat) : Int) := by
  have e : ((UInt8.ofNat (48 + n)).toNat : Int) = 48 + n := by simp [UInt8.toNat_ofNat']; omega
  conv => lhs; unfold pdec
  rw [e, if_pos (by simp [isDig]; omega), if_neg (by omega)]
  congr 1; omega
theorem pdec_dec (n : Nat) : ∀ (r : List UInt8), n ≤ 100000000 → pdec (Lib.decDigits n ++ r) 0 = pdec r n := by
  induction n using Nat.strongRecOn with
  | _ n ih =>
    intro r hn
    rw [Lib.decDigits]
    split
    · rename_i h
      have := pdec_one n h r 0 (by omega)
      simpa using this
    · rename_i h
      rw [List.append_assoc, ih (n / 10) (by omega) _ (by omega)]
      have := pdec_one (n % 10) (by omega) r (n / 10) (by omega)
      rw [List.singleton_append, this]
      congr 1; omega
theorem dec_plain (n : Nat) : ∀ c ∈ Lib.decDigits n, isPlain c = true ∧ c ≠ 46 := by
  have hk : ∀ k, k < 10 → isPlain (UInt8.ofNat (48 + k)) = true ∧ UInt8.ofNat (48 + k) ≠ 46 := by decide
  induction n using Nat.strongRecOn with
  | _ n ih =>
    intro c hc
    rw [Lib.decDigits] at hc
    split at hc
    · rename_i h
      rw [List.mem_singleton.1 hc]; exact hk n h
    · rename_i h
      rcases List.mem_append.1 hc with hc | hc
      · exact ih (n / 10) (by omega) c hc
      · rw [List.mem_singleton.1 hc]; exact hk _ (by omega)
theorem dec_ne (n : Nat) : Lib.decDigits n ≠ [] := by
  rw [Lib.decDigits]; split <;> simp
theorem dec_len' (n : Nat) : (Lib.decDigits n).length ≤ n + 1 := by
  induction n using Nat.strongRecOn with
  | _ n ih =>
    rw [Lib.decDigits]
    split
    · simp
    · rename_i h
      have := ih (n / 10) (by omega)
      rw [List.length_append, List.length_singleton]; omega
theorem decN_counted (s : List UInt8) (r : List UInt8) (hs : s.length ≤ 100000000) : decN (Lib.decDigits s.length ++ 95 :: r) = some ((s.length : Int), 95 :: r) := by
  unfold decN
  rw [if_neg (by simp), pdec_dec _ _ hs]
  simp [pdec, isDig]
theorem idN_puny {s t : List UInt8} (hs : s.length ≤ 100000000) (hp : s.all isPlain = true) (ht : told s true = some t) : idN (117 :: (Lib.decDigits s.length ++ 95 :: s)) = some (some (0, t, [])) := by
  have h1 : disN (117 :: (Lib.decDigits s.length ++ 95 :: s)) = some (0, 117 :: (Lib.decDigits s.length ++ 95 :: s)) := by unfold disN; rw [if_neg (by simp)]
  unfold idN
  rw [h1]
  simp only
  unfold undN
  simp only [List.head?_cons, decide_true, if_true, List.tail_cons]
  rw [decN_counted s s hs]
  simp only [List.head?_cons, if_true, List.tail_cons]
  rw [if_neg (by omega)]
  have : s.take ((s.length : Int)).toNat = s := by simp
  rw [this, if_neg (by rw [hp]; simp), ht]
  simp
theorem idN_a (r : List UInt8) : idN (49 :: 97 :: r) = some (some (0, [97], r)) := by
  have h1 : disN (49 :: 97 :: r) = some (0, 49 :: 97 :: r) := by unfold disN; rw [if_neg (by simp)]
  unfold idN
  rw [h1]
  simp only
  unfold undN
  have h2 : decN (49 :: 97 :: r) = some (1, 97 :: r) := by simp [decN, pdec, isDig]
  have h3 : told [97] false = some [97] := by simp [told, isPlain, isDig, isLet]
  have h4 : ([97] : List UInt8).all isPlain = true := by decide
  simp [h2, h3, h4]
  exact ⟨_, by rw [if_neg (by omega)], .inl rfl⟩
theorem u8_len (l : List Int) : (u8 l).length ≤ 4 * l.length := by
  have := foldl_size_le l ByteArray.empty
  have h : (u8 l).length = (runesBytes l).size := by unfold u8; rw [Array.length_toList]; rfl
  rw [h]; have h2 : ByteArray.empty.size = 0 := rfl
  rw [h2] at this; unfold runesBytes; omega
theorem told_len {s t : List UInt8} (h : told s true = some t) : t.length ≤ 8 * s.length := by
  unfold told at h
  split at h
  · cases h
  · rw [if_neg (by simp)] at h
    split at h
    · cases h
    · cases hd : decoded (befOf s) (digOf s) with
      | none => rw [hd] at h; cases h
      | some out =>
        rw [hd] at h; simp at h; subst h
        have h1 := decoded_len hd
        have h2 := u8_len out
        have h3 : (befOf s).length ≤ s.length := by unfold befOf; split <;> simp; omega
        have h4 : (digOf s).length ≤ s.length := by unfold digOf; simp
        omega
theorem wr_out {st : RS} (s : List UInt8) (h1 : st.skip = false) (h2 : st.max = 0) : (st.wr s).out = st.out ++ s ∧ (st.wr s).skip = false ∧ (st.wr s).max = 0 := by
  unfold RS.wr
  rw [if_neg (by rw [h1]; simp), if_neg (by omega)]
  split
  · rename_i h; subst h; exact ⟨by simp, h1, h2⟩
  · exact ⟨rfl, h1, h2⟩
theorem anCounted_any {l : List UInt8} (w : World) (hl : l.length ≤ 3000) (htab : Lib.TabIs Tryd.prog w "internal/strconv.uint64pow10" .u64 Lib.pow10Tab) :
    Calls Tryd.prog 7 #[.string ⟨l.toArray⟩, .bool true] w fun e w' => e = .returned (.string ⟨(Lib.decDigits l.length ++ 95 :: l).toArray⟩) ∧ Below w.heap.size w w' := by
  have hi := Tryd.strconv_Itoa (l.length : Int) (by omega) (by omega) w htab
  have he : Lib.itoa (l.length : Int) = Lib.decDigits l.length := by unfold Lib.itoa; rw [if_neg (by omega)]; rfl
  rw [he] at hi
  have hdl := dec_len' l.length
  clear htab he
  go_enter Tryd.func7, Tryd.ntmps7
  go_wp2_with fail
  refine hi.mono ?_
  rintro e w1 ⟨rfl, k, os, rfl⟩
  go_wp2
  go_ret
  exact ⟨by simp, Lib.below_grow _ _ (Nat.le_refl _) _ _⟩
/-- the name that the statement is of, and what it is read as -/
theorem read_one {s t : List UInt8} (hs : s.length ≤ 3000) (ht : told s true = some t) :
    ∃ st : RS, st.str = [] ∧ st.max = 0 ∧ st.out = 97 :: 58 :: 58 :: t ∧ ∀ w p, RAt w p (rs1 (78 :: 118 :: 67 :: 49 :: 97 :: 117 :: (Lib.decDigits s.length ++ 95 :: s)) false 0) →
      Calls Tryd.prog 33 #[.pointer (some ⟨p, 0, none⟩)] w fun e w' => StRes p w (some st) e w' := by
  have hp : s.all isPlain = true := by
    unfold told at ht
    by_cases h1 : s.all isPlain = true
    · exact h1
    · simp [h1] at ht
  have htl := told_len ht
  have hdl := dec_len' s.length
  have hI := idN_puny (by omega) hp ht
  generalize hD : 117 :: (Lib.decDigits s.length ++ 95 :: s) = D at *
  have hDl : D.length ≤ 7000 := by rw [← hD]; simp; omega
  let st0 := rs1 (78 :: 118 :: 67 :: 49 :: 97 :: D) false 0
  let y : RS := (st0.go D).wr [97]
  have hy : y.str = D := wr_str _ _
  have hwf0 : st0.Wf := ⟨by simp [st0, rs1], by simp [st0, rs1]; omega⟩
  have hwy : y.Wf := wf_wr (wf_go hwf0 (by simp [st0, rs1]; omega)) _
  obtain ⟨o1, o2, o3⟩ := wr_out (st := st0.go D) [97] rfl rfl
  obtain ⟨p1, p2, p3⟩ := wr_out (st := y.go []) [58, 58] o2 o3
  obtain ⟨q1, q2, q3⟩ := wr_out (st := (y.go []).wr [58, 58]) t p2 p3
  refine ⟨((y.go []).wr [58, 58]).wr t, ?_, q3, ?_, ?_⟩
  · rw [wr_str, wr_str]; rfl
  · rw [q1, p1]; show (y.out ++ _) ++ _ = _; rw [show y.out = [97] from o1]; rfl
  · intro w p hR
    refine symbol_any (y := some (((y.go []).wr [58, 58]).wr t)) hR rfl (by decide) ?_ ?_ ?_ ?_
    · intro w hR
      refine path_N (y := some y) (x := some (0, t, [])) hR hwf0 rfl (by decide) (by decide) ?_ ?_
      · intro w hR
        refine (path_C (x := some (0, [97], D)) hR (wf_go hwf0 (by simp [st0, rs1])) rfl (idN_a D) ?_).mono ?_
        · intro z hz; cases hz; simp [RS.go, st0, rs1]
        · intro e w' h
          have e1 : ((st0.go (67 :: 49 :: 97 :: D)).go D) = st0.go D := RS.go_go _ _ _
          simp only [Option.map_some] at h
          rw [show (RS.go (rs1 (78 :: 118 :: 67 :: 49 :: 97 :: D) false 0) (67 :: 49 :: 97 :: D)).go D = st0.go D from e1] at h
          exact h
      · intro y' hy'
        cases hy'
        refine ⟨hwy, by rw [hy]; exact hI, fun z hz => ?_⟩
        cases hz
        show y.out.length + 2 + t.length ≤ _
        rw [show y.out = [97] from o1]; simp; omega
    · intro y' h _; exact h
    · intro y' h h2
      cases h
      exact absurd (show (((y.go []).wr [58, 58]).wr t).str = [] by rw [wr_str, wr_str]; rfl) h2
    · intro h; cases h
theorem fnPunycodeRead_any {a0 a1 : Option Addr} {len0 cap0 len1 cap1 : Nat} (w : World) (h0 : Slb w a0 len0 cap0) (h1 : Slb w a1 len1 cap1) (htab : Lib.TabIs Tryd.prog w "internal/strconv.uint64pow10" .u64 Lib.pow10Tab) :
    Calls Tryd.prog 3 #[.slice a0 len0 cap0, .slice a1 len1 cap1] w fun e w' => e = .returned (.bool true) ∧ Below w.heap.size w w' := by
  have H0 := Lib.hid h0
  have H1 := Lib.hid h1
  have HT := Lib.hid htab
  clear h0 h1 htab
  go_enter Tryd.func3, Tryd.ntmps3
  go_wp2_with (go_at_call 4; refine (idPuny_any w H0.out H1.out).mono ?_; rintro e w1 ⟨⟨l, rfl, hl⟩, hb⟩; have HB := Lib.hid hb; have HL := Lib.hid hl; clear hb hl)
  · go_ret; exact ⟨rfl, Below.refl _ _⟩
  · refine (IdTold_any l true w1 (by have := HL.out; omega)).mono ?_
    rintro e w2 ⟨hT, hb2⟩
    have HB2 := Lib.hid (HB.out.trans (below_less hb2 HB.out.size))
    clear hb2
    cases ht : told l true with
    | none =>
      rw [ht] at hT
      obtain ⟨y, rfl⟩ := hT
      clear ht
      go_wp2
      go_ret
      exact ⟨by simp, HB2.out⟩
    | some t =>
      rw [ht] at hT
      obtain rfl := hT
      have HTo := Lib.hid ht
      clear ht
      obtain ⟨st, s1, s2, s3, s4⟩ := read_one HL.out HTo.out
      have htl := told_len HTo.out
      have hL := HL.out
      have hdl := dec_len' l.length
      have hplain : l.all isPlain = true := by
        have ht := HTo.out
        unfold told at ht
        by_cases h1 : l.all isPlain = true
        · exact h1
        · simp [h1] at ht
      have hdots : ∀ c ∈ (78 :: 118 :: 67 :: 49 :: 97 :: 117 :: (Lib.decDigits l.length ++ 95 :: l) : List UInt8), c ≠ 46 := by
        intro c hc
        simp only [List.mem_cons, List.mem_append] at hc
        rcases hc with rfl | rfl | rfl | rfl | rfl | rfl | hc | rfl | hc
        iterate 6 decide
        · exact (dec_plain _ c hc).2
        · decide
        · intro h; subst h
          exact absurd (List.all_eq_true.1 hplain _ hc) (by decide)
      have hout : st.out ≠ [] := by rw [s3]; simp
      have hgs : (Tryd.prog.globalNamed "internal/strconv.uint64pow10").isSome = true := by kernel_rfl
      obtain ⟨g, hg⟩ := Option.isSome_iff_exists.1 hgs
      have hC := anCounted_any w2 hL (Joins.tab_stays hg HT.out HB2.out (Nat.le_refl _))
      have hI : ∀ w, _ := fun w => idTold_ok (w := w) (by simp; omega) hdots s1 s2 hout s4
      rw [s3] at hI
      have HI := Lib.hid hI
      clear hI hplain hdots hout s4 s1 s2 s3 HT hg hgs
      go_wp2_with fail
      refine hC.mono ?_
      rintro e w3 ⟨rfl, hb3⟩
      have HB3 := Lib.hid (HB2.out.trans (below_less hb3 HB2.out.size))
      clear hb3
      go_wp2_with fail
      refine (HI.out w3).mono ?_
      rintro e w4 ⟨rfl, hb4⟩
      have HB4 := Lib.hid (HB3.out.trans (below_less hb4 HB3.out.size))
      clear hb4
      go_wp2
      go_ret
      exact ⟨by simp, HB4.out⟩
  · go_ret; exact ⟨rfl, Below.refl _ _⟩
end Go.Proofs.YtcelplibjhannaaDoor
