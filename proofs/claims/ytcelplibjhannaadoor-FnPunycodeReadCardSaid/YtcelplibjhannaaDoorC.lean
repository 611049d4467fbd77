/- The walk of the reference's reader of Punycode. -/
import Derived.Test.YtcelplibjhannaaDoorB
import Derived.Test.YtcelplibjhannaaDoorMem
import Derived.Deep.RegionLaw
namespace Go.Proofs.YtcelplibjhannaaDoor
open Go.RowKit

theorem idRead_some {l : List UInt8} {f b s : Int} {r : List UInt8} {w : World} (hl : l.length ≤ 4294967296) (f0 : 0 ≤ f) (f1 : f ≤ 1099511627776) (b0 : 0 ≤ b) (b1 : b ≤ 1000) (h : Hid (rd l 1 1 f b = some (s, r))) :
    Calls Tryd.prog 16 #[.string ⟨l.toArray⟩, .int .i64 f, .int .i64 b] w fun e w' => e = .returned (.tuple #[.int .i64 s, .string ⟨r.toArray⟩, .bool true]) ∧ w = w' :=
  (idRead_any l f b w hl f0 f1 b0 b1).mono fun e w' hh => by rw [h.out] at hh; exact hh
theorem idRead_none {l : List UInt8} {f b : Int} {w : World} (hl : l.length ≤ 4294967296) (f0 : 0 ≤ f) (f1 : f ≤ 1099511627776) (b0 : 0 ≤ b) (b1 : b ≤ 1000) (h : Hid (rd l 1 1 f b = none)) :
    Calls Tryd.prog 16 #[.string ⟨l.toArray⟩, .int .i64 f, .int .i64 b] w fun e w' => (∃ x y, e = .returned (.tuple #[.int .i64 x, .string y, .bool false])) ∧ w = w' :=
  (idRead_any l f b w hl f0 f1 b0 b1).mono fun e w' hh => by rw [h.out] at hh; exact hh

theorem Tryd.infoInt : (Tryd.prog.info? 3).map (fun i => (i.zero, i.size, i.bytes)) = some (some (.int .i64 0), 1, 8) := by kernel_rfl
def ints (l : List Int) : List Value := l.map (Value.int .i64)
theorem ints_len (l : List Int) : (ints l).length = l.length := by simp [ints]
/-- what the reader of Punycode hands back -/
def DecRes (B : Nat) (x : Option (List Int)) (e : Ending) (w : World) : Prop :=
  match x with
  | some l => ∃ v, e = .returned (.tuple #[v, .bool true]) ∧ w.ownsRow B 3 1 v l.length (ints l)
  | none => e = .returned (.tuple #[.slice none 0 0, .bool false])
set_option maxHeartbeats 400000 in
theorem idDecoded_any (bs ds : List UInt8) (w : World) (hl : bs.length ≤ 2147483648) (hd : ds.length ≤ 2147483648) :
    Calls Tryd.prog 11 #[.string ⟨bs.toArray⟩, .string ⟨ds.toArray⟩] w fun e w' => DecRes w.heap.size (decoded bs ds) e w' ∧ Below w.heap.size w w' := by
  obtain ⟨i0, hi, hz0, hz1, hz2⟩ := info_parts Tryd.infoInt
  generalize hR : decoded bs ds = R
  have HR := Lib.hid hR; clear hR
  obtain ⟨B, hB⟩ : ∃ B, B = w.heap.size := ⟨_, rfl⟩
  rw [← hB]
  have HB : Hid (B = w.heap.size) := hB
  clear hB
  go_enter Tryd.func11, Tryd.ntmps11
  go_wp2
  go_loopw [6, 18] (fun v i wr => ∃ (k : Nat) (a : Option Addr) (c : Nat), k ≤ bs.length ∧ v = .slice a k c ∧ i = .int .i64 k ∧ wr.ownsRow B 3 1 (.slice a k c) k (ints (chars (bs.take k))) ∧ Below B w wr ∧ B ≤ wr.heap.size) (fun _ i _ => bs.length - (intOf i).toNat)
  case atStart =>
    exact ⟨0, _, 0, by omega, rfl, rfl, owns_mk (sp := []) (Nat.le_of_eq HB.out) (heap_new _ _) (by simp [ints, chars]) rfl (by unfold maxLen; omega),
      (Below.refl _ _).alloc (Nat.le_of_eq HB.out) _, by simp; have := HB.out; omega⟩
  case round =>
    obtain ⟨k, a, c, hk, rfl, rfl, hown, hbel, hsz⟩ := hrel
    by_cases hlt : k < bs.length
    · have hx : chars (bs.take (k + 1)) = chars (bs.take k) ++ [(bs[k].toNat : Int)] := by rw [List.take_succ_eq_append_getElem hlt]; simp only [chars, List.map_append]; rfl
      have HX := Lib.hid hx; clear hx
      have hcb : (bs[k].toNat : Int) ≤ 255 := by have := bs[k].toNat_lt; omega
      have hc0 : (0 : Int) ≤ (bs[k].toNat : Int) := by omega
      go_wp2_with (at_builtin; refine wpList_append_own _ rfl _ _ 32 rfl B 3 i0 (.int .i64 0) 1 8 Tryd.underlying32 hi hz0 hz1 hz2 rfl (by decide) _ _ _ rfl (hown.alloc _) ⟨wr.heap.size, 0, none⟩ 1 1 [.int .i64 (bs[k].toNat : Int)] rfl rfl ?c1 ?c2 ?c3 ?c4 ?c5 ?_)
      case c1 => exact cell_one_new _ _ _
      case c2 => simp [Value.oneCell']
      case c3 => unfold maxLen; omega
      case c4 => omega
      case c5 => simp; omega
      intro v' w1 hown1 hgrow _
      obtain ⟨hbel1, hsz1⟩ := below_app hbel hsz hown hgrow
      have hown2 : w1.ownsRow B 3 1 v' (k + 1) (ints (chars (bs.take (k + 1)))) := by rw [HX.out]; simpa [ints] using hown1
      obtain ⟨a', c', rfl, -, -, -⟩ := owns_form hown2
      clear hown1 hgrow hown hbel hsz
      go_wp2
      go_roundw
      case rel => exact ⟨k + 1, a', c', by omega, rfl, by go_num, hown2, hbel1, hsz1⟩
      case measure => simp [intOf]; omega
    · obtain rfl : k = bs.length := by omega
      rw [List.take_length] at hown
      have hln : (chars bs).length = bs.length := by simp [chars]
      clear hlt hk
      go_wp2
      go_loopw [1, 6, 8, 9, 10] (fun dv v nv pv bv wr => ∃ (n : Nat) (ds' : List UInt8) (l : List Int) (a : Option Addr) (c : Nat) (now p b : Int), dv = .string ⟨ds'.toArray⟩ ∧ v = .slice a l.length c ∧ nv = .int .i64 now ∧ pv = .int .i64 p ∧ bv = .int .i64 b ∧
          Hid (dec n l ds' now p b = R) ∧ wr.ownsRow B 3 1 (.slice a l.length c) l.length (ints l) ∧ Below B w wr ∧ B ≤ wr.heap.size ∧ l.length + ds'.length ≤ 4294967296 ∧ ds'.length ≤ n ∧ 0 ≤ p ∧ p ≤ l.length ∧ 128 ≤ now ∧ now ≤ 1114111 ∧ 0 ≤ b ∧ b ≤ 700)
        (fun dv _ _ _ _ _ => strLen dv)
      case atStart =>
        exact ⟨ds.length, ds, chars bs, a, c, 128, 0, 72, rfl, by rw [hln], rfl, rfl, rfl, HR.out, by rw [hln]; exact hown, hbel, hsz, by omega, by omega, by omega, by omega, by omega, by omega, by omega, by omega⟩
      case round =>
        clear hown hbel hsz hln HR hl hd
        obtain ⟨n, ds', l, a, c, now, p, b, rfl, rfl, rfl, rfl, rfl, hdec, hown, hbel, hsz, hln, hn, p0, p1, n0, n1, b0, b1⟩ := hrel
        cases ds' with
        | nil =>
          go_wp2
          have h1 : R = some l := by rw [← hdec.out]; cases n <;> rfl
          go_ret2
          rw [h1]; exact ⟨⟨_, rfl, hown⟩, hbel⟩
        | cons x r =>
          obtain ⟨n, rfl⟩ : ∃ n', n = n' + 1 := ⟨n - 1, by simp at hn; omega⟩
          have hd2 := hdec.out; clear hdec
          unfold dec at hd2
          cases hx : rd (x :: r) 1 1 p b with
          | none =>
            simp only [hx] at hd2
            have HX := Lib.hid hx; clear hx
            go_wp2_with (go_at_call 16; refine (idRead_none (by omega) (by omega) (by omega) (by omega) (by omega) HX).mono ?_; rintro e w' ⟨⟨y, z, rfl⟩, rfl⟩)
            go_ret2
            rw [← hd2]; exact ⟨rfl, hbel⟩
          | some sr =>
            obtain ⟨s, r'⟩ := sr
            simp only [hx] at hd2
            have hge := rd_ge _ _ _ _ _ _ _ (by omega) hx
            have hlen := rd_len _ _ _ _ _ _ _ hx
            have HX := Lib.hid hx; clear hx
            obtain ⟨s0, s1⟩ := hge
            simp only [List.length_cons] at hlen hln hn
            have q0 : 0 ≤ s / ((l.length : Int) + 1) := Int.ediv_nonneg (by omega) (by omega)
            have q1 : s / ((l.length : Int) + 1) ≤ s := Int.ediv_le_self _ (by omega)
            have m0 : 0 ≤ s % ((l.length : Int) + 1) := Int.emod_nonneg _ (by omega)
            have m1 : s % ((l.length : Int) + 1) < (l.length : Int) + 1 := Int.emod_lt_of_pos _ (by omega)
            have ad0 := adapt_bd (s - p) ((l.length : Int) + 1) (p == 0) (by omega) (by omega) (by omega)
            obtain ⟨ad1, ad2⟩ := ad0
            have HD := Lib.hid hd2; clear hd2
            obtain ⟨q, hq⟩ : ∃ q : Nat, s % ((l.length : Int) + 1) = (q : Int) := ⟨(s % ((l.length : Int) + 1)).toNat, by omega⟩
            obtain ⟨nw, hnw⟩ : ∃ z, now + s / ((l.length : Int) + 1) = z := ⟨_, rfl⟩
            obtain ⟨b', hb'⟩ : ∃ z, adapt (s - p) ((l.length : Int) + 1) (p == 0) = z := ⟨_, rfl⟩
            rw [hq] at m0 m1; rw [hb'] at ad1 ad2
            have HD : Hid ((if scalar nw then dec n (insAt l q nw) r' nw ((q : Int) + 1) b' else none) = R) := by rw [← hnw, ← hb', ← HD.out, hq]; rfl
            have q2 : q ≤ l.length := by omega
            by_cases hs : scalar nw = true
            · go_wp2_with (first | (go_at_call 16; refine (idRead_some (by simp; omega) (by omega) (by omega) (by omega) (by omega) HX).mono ?_; rintro e w' ⟨rfl, rfl⟩) | (go_at_call 17; refine (idAdapted_any _ _ _ _ (by omega) (by omega) (by omega) (by omega)).mono ?_; rintro e w' ⟨rfl, rfl⟩) | (go_at_call 18; refine (idIsScalar_any _ _).mono ?_; rintro e w' ⟨rfl, rfl⟩) | (at_builtin; refine wpList_append_own _ rfl _ _ 32 rfl B 3 i0 (.int .i64 0) 1 8 Tryd.underlying32 hi hz0 hz1 hz2 rfl (by decide) _ _ _ rfl (hown.alloc _) ⟨wr.heap.size, 0, none⟩ 1 1 [.int .i64 0] rfl rfl ?c1 ?c2 ?c3 ?c4 ?c5 ?_))
              case c1 => exact cell_one_new _ _ _
              case c2 => simp [Value.oneCell']
              case c3 => unfold maxLen; omega
              case c4 => omega
              case c5 => simp; omega
              intro v' w1 hown1 hgrow _
              obtain ⟨hbel1, hsz1⟩ := below_app hbel hsz hown hgrow
              obtain ⟨g, c', sp, rfl, hBg, hg, hxl, hcl, hcm⟩ := owns_open hown1 (by omega)
              clear hown1 hgrow hown hbel hsz
              obtain ⟨L, hL⟩ : ∃ L, L = ints l ++ [Value.int .i64 0] ++ sp := ⟨_, rfl⟩
              rw [← hL] at hg
              have hLl : L.length = c' := by rw [hL]; simp only [List.length_append] at *; omega
              obtain ⟨cs, hcs⟩ : ∃ cs, cs = (ints l).drop q := ⟨_, rfl⟩
              have hcl' : cs.length = l.length - q := by rw [hcs]; simp [ints]
              have hcc : ∀ j v, cs[j]? = some v → w1.cell? ⟨g, q + j, none⟩ = some v := by
                intro j v hv
                have hj : j < l.length - q := by rw [← hcl']; exact (List.getElem?_eq_some_iff.1 hv).1
                rw [cells_at hg _ (by omega), ← hv, hcs, List.getElem?_drop, ← List.getElem?_eq_getElem, hL, List.append_assoc, List.getElem?_append_left (by simp [ints]; omega)]
              have hc1 : ∀ v ∈ cs, v.oneCell' = true := by rw [hcs]; intro v hv; have := List.mem_of_mem_drop hv; simp [ints] at this; obtain ⟨z, _, rfl⟩ := this; rfl
              have HL := Lib.hid hL; have HCS := Lib.hid hcs; clear hL hcs
              have HCC := Lib.hid hcc; clear hcc
              have q3 : (q : Int) + 1 ≤ (l.length : Int) + 1 := by omega
              have hw1 : IntKind.i64.wrap ((q : Int) + 1) = (q : Int) + 1 := IntWalk.i64_in _ (by omega)
              have hw0 : 0 ≤ (q : Int) + 1 := by omega
              have hw2 : ((q : Int) + 1).toNat = q + 1 := by omega
              have hw3 : ¬ c' = q := by omega
              have hw4 : (q : Int) ≤ (l.length : Int) + 1 := by omega
              have he0 : Hid ((Tryd.prog.info? 3).map (·.size) = some 1) := by rw [hi]; simp [Hid, hz1]
              have hn1 : Hid (cs.length = Nat.min (l.length + 1 - q) (l.length - q)) := by show _ = min _ _; omega
              have hn2 : Hid (∀ dp : Option Addr, (0 < cs.length → dp = some ⟨g, q + 1, none⟩) → (0 < cs.length → dp = some ⟨g, q + 1, none⟩ ∧ ∃ ad, some (⟨g, q, none⟩ : Addr) = some ad ∧ ∀ j v, cs[j]? = some v → w1.drew.cell? (ad.add j) = some v)) := by
                intro dp hdp h0
                refine ⟨hdp h0, _, rfl, fun j v hv => ?_⟩
                have := HCC.out j v hv
                by_cases hj : j = 0
                · subst hj; simpa [Addr.add] using this
                · simpa [Addr.add, hj] using this
              have hn3 : Hid (q + 1 + cs.length ≤ L.length) := by show _ ≤ _; omega
              obtain ⟨dp, hdp⟩ : ∃ dp, (if c' = q + 1 then some (⟨g, 0, none⟩ : Addr) else some ⟨g, q + 1, none⟩) = dp := ⟨_, rfl⟩
              have hdp2 : Hid (0 < cs.length → dp = some ⟨g, q + 1, none⟩) := fun h0 => by rw [← hdp, if_neg (by omega)]
              go_wp2
              go_region_law (refine step_copy_splice rfl (.tmp 68) (.tmp 71) 32 32 rfl 3 Tryd.underlying32 he0 dp (some ⟨g, q, none⟩) (l.length - q) (c' - (q + 1)) (l.length + 1 - q) (c' - q) (by simp [Act.eval, Act.put]) (by simp [Act.eval, Act.put]) g (q + 1) L 3 hg cs hn1 (hn2.out _ hdp2.out) hn3 hc1 B w hbel1.drew hBg ?_; intro w2 hg2 hbel2)
              have hL2 : (splice L (q + 1) cs).length = L.length := length_splice _ _ _ hn3
              obtain ⟨cv, hcell⟩ : ∃ cv, w2.cell? ⟨g, q, none⟩ = some cv := ⟨_, cells_at hg2.out q (by omega)⟩
              have hfree := cells_free hg2.out q
              have hset := Lib.hid (cells_set hg2.out q (.int .i64 nw))
              clear hw0 hw1 hw2 hw3 hw4 he0 hn1 hn2 hn3 hdp hdp2 hc1 HCC hg hg2 hbel1
              have hcells : Hid ((w2.setCell ⟨g, q, none⟩ (.int .i64 nw)).heap[g]? = some (.cells (ints (insAt l q nw) ++ sp).toArray 3 (0, 0))) := by
                show _ = _
                rw [hset.out, HL.out, HCS.out, ins_cells _ _ _ _ _ (by simp [ints]; omega)]
                simp [ints, insAt]
              have hd3 : Hid (dec n (insAt l q nw) r' nw ((q : Int) + 1) b' = R) := by have := HD.out; rw [if_pos hs] at this; exact this
              have hn0 : 128 ≤ nw := by omega
              have hn1 : nw ≤ 1114111 := by have h := hs; simp [scalar] at h; omega
              clear hset HD HX HL HCS
              go_wp2
              go_roundw
              case rel =>
                refine ⟨n, r', insAt l q nw, some ⟨g, 0, none⟩, c', nw, q + 1, b', rfl, by rw [insAt_len], rfl, rfl, rfl, hd3, ?_, hbel2.setCell hBg _, ?_, by rw [insAt_len]; omega, by omega, by omega, by rw [insAt_len]; push_cast; omega, hn0, hn1, ad1, ad2⟩
                · rw [insAt_len]; exact owns_mk (sp := sp) hBg hcells.out (by simp [ints, insAt_len]) hcl hcm
                · have h1 := hbel2.size; have h2 := HB.out; simp; omega
              case measure => simp [strLen, ByteArray.size]; omega
            · simp only [Bool.not_eq_true] at hs
              go_wp2_with (first | (go_at_call 16; refine (idRead_some (by simp; omega) (by omega) (by omega) (by omega) (by omega) HX).mono ?_; rintro e w' ⟨rfl, rfl⟩) | (go_at_call 17; refine (idAdapted_any _ _ _ _ (by omega) (by omega) (by omega) (by omega)).mono ?_; rintro e w' ⟨rfl, rfl⟩) | (go_at_call 18; refine (idIsScalar_any _ _).mono ?_; rintro e w' ⟨rfl, rfl⟩))
              have h1 : R = none := by rw [← HD.out, if_neg (by simp [hs])]
              go_ret2
              rw [h1]; exact ⟨rfl, hbel⟩
end Go.Proofs.YtcelplibjhannaaDoor
