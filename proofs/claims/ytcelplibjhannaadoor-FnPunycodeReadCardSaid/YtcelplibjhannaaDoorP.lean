/- The walk of the program's reader of Punycode, where the digits tell a name. -/
import Derived.Test.YtcelplibjhannaaDoorT
import Derived.Test.YtcelplibjhannaaDoorN
import Derived.Test.YtcelplibjhannaaDoorShelf
import Derived.Deep.RegionLaw
import Derived.Deep.CutBlock
namespace Go.Proofs.YtcelplibjhannaaDoor
open Go.RowKit

theorem Tryd.infoRune : (Tryd.prog.info? 21).map (fun i => (i.zero, i.size, i.bytes)) = some (some (.int .i32 0), 1, 4) := by kernel_rfl
theorem runes_len (l : List Int) : (runes l).length = l.length := by simp [runes]
theorem RAt.below {w w' : World} {p : Nat} {st : RS} (h : RAt w p st) (hb : Below w.heap.size w w') : RAt w' p st := by
  obtain ⟨addr, sl, h1, h2, hn, h3⟩ := h
  have hp : p < w.heap.size := (Array.getElem?_eq_some_iff.1 h1).1
  refine ⟨addr, sl, by rw [hb.block p hp]; exact h1, h2, hn, ?_⟩
  obtain ⟨h4, h5⟩ := h3
  refine ⟨h4, ?_⟩
  rcases h5 with h5 | ⟨g, cap, cur, e, hB, hg, r⟩
  · exact .inl h5
  · exact .inr ⟨g, cap, cur, e, hB, by rw [hb.block g (Array.getElem?_eq_some_iff.1 hg).1]; exact hg, r⟩
theorem Upd.of_below {w w' : World} {p : Nat} (hp : p < w.heap.size) (hb : Below w.heap.size w w') : Upd p w w' :=
  ⟨hb.os, hb.tape, hb.output, hb.size, fun k hk _ _ => hb.block k hk, fun k hk => by
    have : bufOf w' p = bufOf w p := by unfold bufOf; rw [hb.block p hp]
    rw [this] at hk; exact .inl hk⟩
theorem validRune_ok {n : Int} (w : World) (h : scalar n = true) (h1 : 128 ≤ n) :
    Calls Tryd.prog 85 #[.int .i32 n] w fun e w' => e = .returned (.bool true) ∧ w = w' :=
  (Tryd.utf8_ValidRune n w).mono fun e w' ⟨h2, hw⟩ => ⟨by rw [h2, validRune_scalar h1, h], hw.symm⟩
theorem lastU_any (s : List UInt8) (w : World) (hl : s.length ≤ 2147483648) :
    Calls Tryd.prog 84 #[.string ⟨s.toArray⟩, .string ⟨#[95]⟩] w fun e w' => e = .returned (.int .i64 (cutOf s)) ∧ w = w' :=
  (Tryd.strings_LastIndex_one ⟨s.toArray⟩ ⟨#[95]⟩ rfl (by show s.length < _; omega) w).mono fun e w' ⟨h, hw⟩ => ⟨by rw [h, ← lastIndex_cut s]; rfl, hw.symm⟩
set_option maxHeartbeats 4000000 in
set_option maxRecDepth 100000 in
theorem expand_any {w : World} {p : Nat} {st : RS} {s : List UInt8} {out : List Int} (_hR : RAt w p st) (hl : s.length ≤ 2147483648) (hpl : s.all isPlain = true) (hc : cutOf s ≠ 0) (_hdg : digOf s ≠ []) (hd : decoded (befOf s) (digOf s) = some out) :
    Calls Tryd.prog 79 #[.pointer (some ⟨p, 0, none⟩), .string ⟨s.toArray⟩] w fun e w' => e = .returned (.string (runesBytes out)) ∧ Below w.heap.size w w' := by
  obtain ⟨i0, hi, hz0, hz1, hz2⟩ := info_parts Tryd.infoRune
  have hcb := cutTo_bd s s.length
  have hlen := decoded_len hd
  have hbnd := decoded_bd hd
  obtain ⟨cu, hcu⟩ : ∃ cu, cutOf s = cu := ⟨_, rfl⟩
  obtain ⟨bs, hbs⟩ : ∃ bs, befOf s = bs := ⟨_, rfl⟩
  obtain ⟨ds, hds⟩ : ∃ ds, digOf s = ds := ⟨_, rfl⟩
  have hbs' := hbs; have hds' := hds
  unfold befOf at hbs'; unfold digOf at hds'
  rw [hcu] at hbs' hds' hc
  have hcb' : -1 ≤ cu ∧ cu < (s.length : Int) := by rw [← hcu]; exact hcb
  rw [hbs, hds] at hd hlen
  rw [hds] at _hdg
  have hli : Hid (cutOf s = cu) := hcu
  have hbl : bs.length ≤ 2147483648 := by rw [← hbs']; split <;> simp <;> omega
  have hdl : ds.length ≤ 2147483648 := by rw [← hds']; simp; omega
  have hbp : Hid (∀ c ∈ bs, c.toNat < 128) := by
    intro c hcm
    rw [← hbs'] at hcm
    split at hcm
    · exact plain_lt (List.all_eq_true.1 hpl c (List.mem_of_mem_take hcm))
    · cases hcm
  have HD := Lib.hid hd; have HBD := Lib.hid hbnd
  clear hd hbnd hcu hbs hds hcb hpl
  obtain ⟨B, hB⟩ : ∃ B, B = w.heap.size := ⟨_, rfl⟩
  rw [← hB]
  have HB : Hid (B = w.heap.size) := hB
  clear hB
  obtain ⟨cb0, cb1⟩ := hcb'
  have hc3 : 0 < cu ∨ cu = -1 := by omega
  go_enter Tryd.func79, Tryd.ntmps79
  go_upto_if 25 with (go_at_call 84; refine (lastU_any s _ hl).mono ?_; rintro e w' ⟨rfl, rfl⟩; rw [hli.out])
  go_cut [5, 6] (fun v ev wc => ∃ (av : Option Addr) (cv0 : Nat), v = .slice av bs.length cv0 ∧ ev = .string ⟨ds.toArray⟩ ∧ wc.ownsRow B 21 1 (.slice av bs.length cv0) bs.length (runes (chars bs)) ∧ Below B w wc ∧ B ≤ wc.heap.size)
  case first =>
    rcases hc3 with hc0 | hc0
    · rw [if_pos hc0] at hbs'
      have hcge : 0 ≤ cu := by omega
      have hcv : ∀ w : World, (convert 9 107 (.string ⟨bs.toArray⟩)).run Tryd.prog w = .ok (.slice (some ⟨w.heap.size, 0, none⟩) bs.length (grownCap w bs.length 0 21))
          (w.drew.alloc (.cells ((runes (chars bs)).toArray ++ Array.replicate (grownCap w bs.length 0 21 - bs.length) (.int .i32 0)) 21)) := by
        intro w
        have e := runes_plain bs hbp.out
        have e2 : (runes (chars bs)).toArray.size = bs.length := by simp [runes, chars]
        have := run_runes_of_string (P := Tryd.prog) w 9 107 21 ⟨bs.toArray⟩ Tryd.underlying9 Tryd.underlying107 Tryd.underlying21 (by rw [e, e2]; omega)
        rw [e, e2] at this; exact this
      go_wp2
      go_meet
      exact ⟨_, _, rfl, rfl, owns_mk (sp := List.replicate (grownCap w bs.length 0 21 - bs.length) (.int .i32 0)) (Nat.le_of_eq HB.out) (by show ((w.alloc _).heap[w.heap.size]?) = _; rw [heap_new]; simp) (by simp [runes, chars]) (by have := grownCap_ge w bs.length 0 21; simp; omega) (grownCap_le_maxLen w bs.length 0 21 (by unfold maxLen; omega)),
        ((Below.refl _ _).alloc (Nat.le_of_eq HB.out) _).drew, by simp; have := HB.out; omega⟩
    · subst hc0
      rw [if_neg (by omega)] at hbs'
      have HDS : Hid (s = ds) := by show s = ds; simpa using hds'
      clear hds'
      subst hbs'
      go_wp2
      go_meet
      exact ⟨none, 0, rfl, by rw [HDS.out], ⟨by simp [runes, chars], .inl ⟨rfl, rfl⟩⟩, Below.refl _ _, Nat.le_of_eq HB.out⟩
  case rest =>
    clear hc hbs' hds' hli hbp cb0 cb1 hc3
    obtain ⟨av, cv0, rfl, rfl, hown0, hbel0, hsz0⟩ := hcut
    go_wp2
    go_loopg [5, 8, 9, 10, 11] ds.length (fun gk v iv nv bv pv wr => ∃ (n : Nat) (ds' : List UInt8) (l : List Int) (a : Option Addr) (c : Nat) (now q b : Int) (j : Nat), Hid (ds'.length = gk) ∧ v = .slice a l.length c ∧ iv = .int .i64 q ∧ nv = .int .i64 now ∧ bv = .int .i64 b ∧ pv = .int .i64 j ∧ Hid (ds.drop j = ds') ∧ Hid (j + ds'.length = ds.length) ∧ j ≤ ds.length ∧ Hid (dec n l ds' now q b = some out) ∧ wr.ownsRow B 21 1 (.slice a l.length c) l.length (runes l) ∧ Below B w wr ∧ B ≤ wr.heap.size ∧ l.length + ds'.length ≤ 4294967296 ∧ ds'.length ≤ n ∧ 0 ≤ q ∧ q ≤ l.length ∧ 128 ≤ now ∧ now ≤ 1114111 ∧ 0 ≤ b ∧ b ≤ 700)
    case atStart =>
      exact ⟨ds.length, ds, chars bs, av, cv0, 128, 0, 72, 0, rfl, by rw [show (chars bs).length = bs.length by simp [chars]], rfl, rfl, rfl, rfl, rfl, by simp [Hid], by omega, HD.out, by rw [show (chars bs).length = bs.length by simp [chars]]; exact hown0, hbel0, hsz0, by simp [chars]; omega, Nat.le_refl _, by omega, by omega, by omega, by omega, by omega, by omega⟩
    case round =>
      clear _hR hl _hdg hbl HD HBD hown0 hbel0 hsz0
      obtain ⟨n, ds', l, a, c, now, q, b, j, hgk, rfl, rfl, rfl, rfl, rfl, hdr, hjl, hj, hdec, hown, hbel, hsz, hln, hn, q0, q1, n0, n1, b0, b1⟩ := hrel
      cases ds' with
      | nil =>
        have hjj : Hid (j = ds.length) := by have h := hjl.out; simp only [List.length_nil, Nat.add_zero] at h; exact h
        obtain rfl := hjj.out
        have h1 : Hid (l = out) := by have h := hdec.out; rw [show dec n l [] now q b = some l from by cases n <;> rfl] at h; exact Option.some.inj h
        have hcv2 := conv_runes (P := Tryd.prog) (src := 107) (dst := 9) Tryd.underlying107 Tryd.underlying21 Tryd.underlying9 hown
        clear hown
        go_wp2
        go_ret
        rw [h1.out]; exact ⟨rfl, hbel⟩
      | cons x r =>
        have hlt : j < ds.length := by have := hjl.out; simp at this; omega
        obtain ⟨n, rfl⟩ : ∃ n', n = n' + 1 := ⟨n - 1, by simp at hn; omega⟩
        have hd2 := hdec.out; clear hdec
        unfold dec at hd2
        cases hx : rd (x :: r) 1 1 q b with
        | none => rw [hx] at hd2; cases hd2
        | some sr =>
          obtain ⟨i1, r1⟩ := sr
          simp only [hx] at hd2
          have hge := rd_ge _ _ _ _ _ _ _ (by omega) hx
          have hlen1 := rd_len _ _ _ _ _ _ _ hx
          have HX := Lib.hid hx; clear hx
          obtain ⟨s0, s1⟩ := hge
          simp only [List.length_cons] at hlen1 hln hn
          obtain ⟨j1, hj1⟩ : ∃ j1, j1 = ds.length - r1.length := ⟨_, rfl⟩
          have hj1a : j1 ≤ ds.length := by omega
          have hj1b : Hid (j1 + r1.length = ds.length) := by have := hjl.out; simp at this; show _ = _; omega
          have HJ1 := Lib.hid hj1; clear hj1
          go_upto_block 2 with fail
          go_cut [8, 11] (fun iv pv wc => iv = .int .i64 i1 ∧ pv = .int .i64 j1 ∧ ds.drop j1 = r1 ∧ wc = wr)
          case first =>
            clear hd2 hown hbel hsz hln hn hgk
            go_wp2_with fail
            go_loop [8, 11, 13, 14] (fun iv pv wv kv => ∃ (ds2 : List UInt8) (j2 : Nat) (i2 wt pl kk : Int), iv = .int .i64 i2 ∧ pv = .int .i64 j2 ∧ wv = .int .i64 wt ∧ kv = .int .i64 kk ∧ Hid (ds.drop j2 = ds2) ∧ Hid (j2 + ds2.length = ds.length) ∧ Hid (rd ds2 pl wt i2 b = some (i1, r1)) ∧
                Hid (kk = 36 * pl) ∧ 36 ≤ kk ∧ kk ≤ 36 + 36 * (j2 : Int) ∧ j2 ≤ ds.length ∧ 1 ≤ wt ∧ wt ≤ 2087831270 ∧ q ≤ i2 ∧ i2 ≤ q + 4 * wt) (fun _ pv _ _ => ds.length + 1 - (intOf pv).toNat)
            case atStart => exact ⟨x :: r, j, q, 1, 1, 36, rfl, rfl, rfl, rfl, hdr, hjl, HX.out, rfl, by omega, by omega, by omega, by omega, by omega, by omega, by omega⟩
            case round =>
              clear hdr hjl HX hlt
              obtain ⟨ds2, j2, i2, wt, pl, kk, rfl, rfl, rfl, rfl, hdr, hjl, hrd, hkk, k0, k1, hj2, w0, w1, t0, t1⟩ := hrel
              cases ds2 with
              | nil => have h := hrd.out; simp [rd] at h
              | cons y r2 =>
                have hlt2 : j2 < ds.length := by have := hjl.out; simp at this; omega
                have hy : ds[j2] = y := by have h := hdr.out; rw [List.drop_eq_getElem_cons hlt2] at h; exact (List.cons.inj h).1
                have hdr2 : Hid (ds.drop (j2 + 1) = r2) := by have h := hdr.out; rw [List.drop_eq_getElem_cons hlt2] at h; exact (List.cons.inj h).2
                have hjl2 : Hid (j2 + 1 + r2.length = ds.length) := by have h := hjl.out; simp only [List.length_cons] at h; show _ = _; omega
                have hr2 := hrd.out
                unfold rd at hr2
                have hyb : (y.toNat : Int) ≤ 255 := by have := y.toNat_lt; omega
                have hkk2 := hkk.out
                have hdig : ¬ (digV y.toNat < 0 ∨ wt > 1099511627776) := fun h => by rw [if_pos h] at hr2; cases hr2
                rw [if_neg hdig] at hr2
                obtain ⟨d, hd⟩ : ∃ d, digV (y.toNat : Int) = d := ⟨_, rfl⟩
                obtain ⟨t, ht⟩ : ∃ t, thr pl b = t := ⟨_, rfl⟩
                rw [hd] at hdig hr2
                rw [ht] at hr2
                have hd0 : 0 ≤ d := by omega
                have hd1 : d ≤ 35 := by rw [← hd]; exact (digV_bd _).2
                have ht0 : 1 ≤ t ∧ t ≤ 26 := by rw [← ht]; exact thr_bd _ _
                obtain ⟨t2, t3⟩ := ht0
                have hcls : Hid ((48 ≤ (y.toNat : Int) ∧ (y.toNat : Int) ≤ 57 ∧ d = (y.toNat : Int) - 48 + 26) ∨ (97 ≤ (y.toNat : Int) ∧ (y.toNat : Int) ≤ 122 ∧ d = (y.toNat : Int) - 97)) := by
                  show _ ∨ _
                  rw [← hd] at hd0 ⊢
                  unfold digV at hd0 ⊢
                  split at hd0
                  · right; rename_i h; rw [if_pos h]; exact ⟨h.1, h.2, rfl⟩
                  · split at hd0
                    · left; rename_i h h'; rw [if_neg h, if_pos h']; exact ⟨h'.1, h'.2, rfl⟩
                    · omega
                have htc : Hid ((kk ≤ b ∧ t = 1) ∨ (b + 26 < kk ∧ t = 26) ∨ (b < kk ∧ kk ≤ b + 26 ∧ t = kk - b)) := by
                  show _ ∨ _
                  rw [← ht, hkk2]; unfold thr; omega
                have hm0 : 0 ≤ d * wt := Int.mul_nonneg (by omega) (by omega)
                have hm1 : d * wt ≤ 35 * wt := Int.mul_le_mul_of_nonneg_right (by omega) (by omega)
                have HR2 := Lib.hid hr2
                clear hd ht hdr hjl hrd hr2 hdig hkk2
                rcases hcls.out with ⟨e1, e2, e3⟩ | ⟨e1, e2, e3⟩
                · have e4 := e3.symm; clear e3 hcls
                  rcases htc.out with ⟨f1, f2⟩ | ⟨f1, f2⟩ | ⟨f1, f2, f3⟩
                  · subst f2; clear htc
                    have hh := HR2.out; clear HR2
                    by_cases g1 : d < 1
                    · rw [if_pos g1] at hh
                      have hi1 : Hid (i2 + d * wt = i1 ∧ r2 = r1) := by split at hh; (· have h := Option.some.inj hh; exact ⟨(Prod.mk.inj h).1, (Prod.mk.inj h).2⟩); (· cases hh)
                      clear hh
                      have ej : Hid (j1 = j2 + 1) := by show _ = _; rw [HJ1.out, ← hi1.out.2]; have h := hjl2.out; omega
                      go_wp2
                      all_goals
                        go_meet
                        exact ⟨by rw [hi1.out.1], by rw [ej.out]; go_num, by rw [ej.out, ← hi1.out.2]; exact hdr2.out, rfl⟩
                    · rw [if_neg g1] at hh
                      have g2 : ¬ wt ≥ 59652323 := fun h => by rw [if_pos h] at hh; cases hh
                      rw [if_neg g2] at hh
                      have HH := Lib.hid hh; clear hh
                      have y0 : wt * 10 ≤ wt * (36 - 1) := Int.mul_le_mul_of_nonneg_left (by omega) (by omega)
                      have y1 : wt * (36 - 1) ≤ wt * 35 := Int.mul_le_mul_of_nonneg_left (by omega) (by omega)
                      go_wp2
                      all_goals
                        go_round
                        case rel => exact ⟨r2, j2 + 1, _, _, pl + 1, _, rfl, by go_num, rfl, rfl, hdr2, hjl2, HH.out, by have h := hkk.out; show _ = _; omega, by omega, by push_cast; omega, by omega, by omega, by omega, by omega, by omega⟩
                        case measure => simp [intOf]; omega
                  · subst f2; clear htc
                    have hh := HR2.out; clear HR2
                    by_cases g1 : d < 26
                    · rw [if_pos g1] at hh
                      have hi1 : Hid (i2 + d * wt = i1 ∧ r2 = r1) := by split at hh; (· have h := Option.some.inj hh; exact ⟨(Prod.mk.inj h).1, (Prod.mk.inj h).2⟩); (· cases hh)
                      clear hh
                      have ej : Hid (j1 = j2 + 1) := by show _ = _; rw [HJ1.out, ← hi1.out.2]; have h := hjl2.out; omega
                      go_wp2
                      all_goals
                        go_meet
                        exact ⟨by rw [hi1.out.1], by rw [ej.out]; go_num, by rw [ej.out, ← hi1.out.2]; exact hdr2.out, rfl⟩
                    · rw [if_neg g1] at hh
                      have g2 : ¬ wt ≥ 59652323 := fun h => by rw [if_pos h] at hh; cases hh
                      rw [if_neg g2] at hh
                      have HH := Lib.hid hh; clear hh
                      have y0 : wt * 10 ≤ wt * (36 - 26) := Int.mul_le_mul_of_nonneg_left (by omega) (by omega)
                      have y1 : wt * (36 - 26) ≤ wt * 35 := Int.mul_le_mul_of_nonneg_left (by omega) (by omega)
                      go_wp2
                      all_goals
                        go_round
                        case rel => exact ⟨r2, j2 + 1, _, _, pl + 1, _, rfl, by go_num, rfl, rfl, hdr2, hjl2, HH.out, by have h := hkk.out; show _ = _; omega, by omega, by push_cast; omega, by omega, by omega, by omega, by omega, by omega⟩
                        case measure => simp [intOf]; omega
                  · have f4 := f3.symm; clear f3 htc
                    have hh := HR2.out; clear HR2
                    by_cases g1 : d < t
                    · rw [if_pos g1] at hh
                      have hi1 : Hid (i2 + d * wt = i1 ∧ r2 = r1) := by split at hh; (· have h := Option.some.inj hh; exact ⟨(Prod.mk.inj h).1, (Prod.mk.inj h).2⟩); (· cases hh)
                      clear hh
                      have ej : Hid (j1 = j2 + 1) := by show _ = _; rw [HJ1.out, ← hi1.out.2]; have h := hjl2.out; omega
                      go_wp2
                      all_goals
                        go_meet
                        exact ⟨by rw [hi1.out.1], by rw [ej.out]; go_num, by rw [ej.out, ← hi1.out.2]; exact hdr2.out, rfl⟩
                    · rw [if_neg g1] at hh
                      have g2 : ¬ wt ≥ 59652323 := fun h => by rw [if_pos h] at hh; cases hh
                      rw [if_neg g2] at hh
                      have HH := Lib.hid hh; clear hh
                      have y0 : wt * 10 ≤ wt * (36 - t) := Int.mul_le_mul_of_nonneg_left (by omega) (by omega)
                      have y1 : wt * (36 - t) ≤ wt * 35 := Int.mul_le_mul_of_nonneg_left (by omega) (by omega)
                      go_wp2
                      all_goals
                        go_round
                        case rel => exact ⟨r2, j2 + 1, _, _, pl + 1, _, rfl, by go_num, rfl, rfl, hdr2, hjl2, HH.out, by have h := hkk.out; show _ = _; omega, by omega, by push_cast; omega, by omega, by omega, by omega, by omega, by omega⟩
                        case measure => simp [intOf]; omega
                · have e4 := e3.symm; clear e3 hcls
                  rcases htc.out with ⟨f1, f2⟩ | ⟨f1, f2⟩ | ⟨f1, f2, f3⟩
                  · subst f2; clear htc
                    have hh := HR2.out; clear HR2
                    by_cases g1 : d < 1
                    · rw [if_pos g1] at hh
                      have hi1 : Hid (i2 + d * wt = i1 ∧ r2 = r1) := by split at hh; (· have h := Option.some.inj hh; exact ⟨(Prod.mk.inj h).1, (Prod.mk.inj h).2⟩); (· cases hh)
                      clear hh
                      have ej : Hid (j1 = j2 + 1) := by show _ = _; rw [HJ1.out, ← hi1.out.2]; have h := hjl2.out; omega
                      go_wp2
                      all_goals
                        go_meet
                        exact ⟨by rw [hi1.out.1], by rw [ej.out]; go_num, by rw [ej.out, ← hi1.out.2]; exact hdr2.out, rfl⟩
                    · rw [if_neg g1] at hh
                      have g2 : ¬ wt ≥ 59652323 := fun h => by rw [if_pos h] at hh; cases hh
                      rw [if_neg g2] at hh
                      have HH := Lib.hid hh; clear hh
                      have y0 : wt * 10 ≤ wt * (36 - 1) := Int.mul_le_mul_of_nonneg_left (by omega) (by omega)
                      have y1 : wt * (36 - 1) ≤ wt * 35 := Int.mul_le_mul_of_nonneg_left (by omega) (by omega)
                      go_wp2
                      all_goals
                        go_round
                        case rel => exact ⟨r2, j2 + 1, _, _, pl + 1, _, rfl, by go_num, rfl, rfl, hdr2, hjl2, HH.out, by have h := hkk.out; show _ = _; omega, by omega, by push_cast; omega, by omega, by omega, by omega, by omega, by omega⟩
                        case measure => simp [intOf]; omega
                  · subst f2; clear htc
                    have hh := HR2.out; clear HR2
                    by_cases g1 : d < 26
                    · rw [if_pos g1] at hh
                      have hi1 : Hid (i2 + d * wt = i1 ∧ r2 = r1) := by split at hh; (· have h := Option.some.inj hh; exact ⟨(Prod.mk.inj h).1, (Prod.mk.inj h).2⟩); (· cases hh)
                      clear hh
                      have ej : Hid (j1 = j2 + 1) := by show _ = _; rw [HJ1.out, ← hi1.out.2]; have h := hjl2.out; omega
                      go_wp2
                      all_goals
                        go_meet
                        exact ⟨by rw [hi1.out.1], by rw [ej.out]; go_num, by rw [ej.out, ← hi1.out.2]; exact hdr2.out, rfl⟩
                    · rw [if_neg g1] at hh
                      have g2 : ¬ wt ≥ 59652323 := fun h => by rw [if_pos h] at hh; cases hh
                      rw [if_neg g2] at hh
                      have HH := Lib.hid hh; clear hh
                      have y0 : wt * 10 ≤ wt * (36 - 26) := Int.mul_le_mul_of_nonneg_left (by omega) (by omega)
                      have y1 : wt * (36 - 26) ≤ wt * 35 := Int.mul_le_mul_of_nonneg_left (by omega) (by omega)
                      go_wp2
                      all_goals
                        go_round
                        case rel => exact ⟨r2, j2 + 1, _, _, pl + 1, _, rfl, by go_num, rfl, rfl, hdr2, hjl2, HH.out, by have h := hkk.out; show _ = _; omega, by omega, by push_cast; omega, by omega, by omega, by omega, by omega, by omega⟩
                        case measure => simp [intOf]; omega
                  · have f4 := f3.symm; clear f3 htc
                    have hh := HR2.out; clear HR2
                    by_cases g1 : d < t
                    · rw [if_pos g1] at hh
                      have hi1 : Hid (i2 + d * wt = i1 ∧ r2 = r1) := by split at hh; (· have h := Option.some.inj hh; exact ⟨(Prod.mk.inj h).1, (Prod.mk.inj h).2⟩); (· cases hh)
                      clear hh
                      have ej : Hid (j1 = j2 + 1) := by show _ = _; rw [HJ1.out, ← hi1.out.2]; have h := hjl2.out; omega
                      go_wp2
                      all_goals
                        go_meet
                        exact ⟨by rw [hi1.out.1], by rw [ej.out]; go_num, by rw [ej.out, ← hi1.out.2]; exact hdr2.out, rfl⟩
                    · rw [if_neg g1] at hh
                      have g2 : ¬ wt ≥ 59652323 := fun h => by rw [if_pos h] at hh; cases hh
                      rw [if_neg g2] at hh
                      have HH := Lib.hid hh; clear hh
                      have y0 : wt * 10 ≤ wt * (36 - t) := Int.mul_le_mul_of_nonneg_left (by omega) (by omega)
                      have y1 : wt * (36 - t) ≤ wt * 35 := Int.mul_le_mul_of_nonneg_left (by omega) (by omega)
                      go_wp2
                      all_goals
                        go_round
                        case rel => exact ⟨r2, j2 + 1, _, _, pl + 1, _, rfl, by go_num, rfl, rfl, hdr2, hjl2, HH.out, by have h := hkk.out; show _ = _; omega, by omega, by push_cast; omega, by omega, by omega, by omega, by omega, by omega⟩
                        case measure => simp [intOf]; omega
          case rest =>
            obtain ⟨rfl, rfl, hdr1, rfl⟩ := hcut
            have HDR1 := Lib.hid hdr1; clear hdr1
            have q0' : 0 ≤ i1 / ((l.length : Int) + 1) := Int.ediv_nonneg (by omega) (by omega)
            have q1' : i1 / ((l.length : Int) + 1) ≤ i1 := Int.ediv_le_self _ (by omega)
            have m0 : 0 ≤ i1 % ((l.length : Int) + 1) := Int.emod_nonneg _ (by omega)
            have m1 : i1 % ((l.length : Int) + 1) < (l.length : Int) + 1 := Int.emod_lt_of_pos _ (by omega)
            have hbb := adapt_bd (i1 - q) ((l.length : Int) + 1) (q == 0) (by omega) (by omega) (by omega)
            obtain ⟨ad1, ad2⟩ := hbb
            have hfit := ad_fits (i1 - q) ((l.length : Int) + 1) (q == 0) (by omega) (by omega) (by omega)
            have hz := Lib.hid (show ad0 (i1 - q) ((l.length : Int) + 1) (q == 0) = (if (q == 0) then (i1 - q) / 700 else (i1 - q) / 2) + (if (q == 0) then (i1 - q) / 700 else (i1 - q) / 2) / ((l.length : Int) + 1) from rfl)
            have he := Lib.hid (adLoop_end 16 (ad0 (i1 - q) ((l.length : Int) + 1) (q == 0)) 0 hfit.1 (by omega))
            have ha := Lib.hid (show adapt (i1 - q) ((l.length : Int) + 1) (q == 0) = (adLoop 16 (ad0 (i1 - q) ((l.length : Int) + 1) (q == 0)) 0).2 + 36 * (adLoop 16 (ad0 (i1 - q) ((l.length : Int) + 1) (q == 0)) 0).1 / ((adLoop 16 (ad0 (i1 - q) ((l.length : Int) + 1) (q == 0)) 0).1 + 38) from rfl)
            obtain ⟨b', hb'⟩ : ∃ z, adapt (i1 - q) ((l.length : Int) + 1) (q == 0) = z := ⟨_, rfl⟩
            obtain ⟨dl, hdl2⟩ : ∃ z, ad0 (i1 - q) ((l.length : Int) + 1) (q == 0) = z := ⟨_, rfl⟩
            obtain ⟨q', hq'⟩ : ∃ q' : Nat, i1 % ((l.length : Int) + 1) = (q' : Int) := ⟨(i1 % ((l.length : Int) + 1)).toNat, by omega⟩
            obtain ⟨nw, hnw⟩ : ∃ z, now + i1 / ((l.length : Int) + 1) = z := ⟨_, rfl⟩
            have hs : scalar (now + i1 / ((l.length : Int) + 1)) = true := by
              cases hh : scalar (now + i1 / ((l.length : Int) + 1)) with
              | true => rfl
              | false => rw [hh] at hd2; simp at hd2
            rw [if_pos hs, hnw, hq', hb'] at hd2
            rw [hnw] at hs
            rw [hq'] at m0 m1
            rw [hb'] at ad1 ad2 ha
            rw [hdl2] at hfit hz he ha
            have HD2 : Hid (dec n (insAt l q' nw) r1 nw ((q' : Int) + 1) b' = some out) := hd2
            have HS := Lib.hid hs
            have nw0 : 128 ≤ nw := by omega
            have nw1 : nw ≤ 1114111 := by have h := hs; simp [scalar] at h; omega
            obtain ⟨fit0, fit1⟩ := hfit
            have g1 : 0 ≤ (i1 - q) / 700 / ((l.length : Int) + 1) := Int.ediv_nonneg (by omega) (by omega)
            have g2 : (i1 - q) / 700 / ((l.length : Int) + 1) ≤ (i1 - q) / 700 := Int.ediv_le_self _ (by omega)
            have g3 : 0 ≤ (i1 - q) / 2 / ((l.length : Int) + 1) := Int.ediv_nonneg (by omega) (by omega)
            have g4 : (i1 - q) / 2 / ((l.length : Int) + 1) ≤ (i1 - q) / 2 := Int.ediv_le_self _ (by omega)
            have q2' : q' ≤ l.length := by omega
            clear hd2 hs hb' hdl2 HX hdr hjl hlt
            cases hf : (q == 0)
            all_goals
              rw [hf] at hz
              go_wp2
              go_loop [18, 21] (fun dv kv => ∃ (n : Nat) (x k : Int), dv = .int .i64 x ∧ kv = .int .i64 k ∧ Hid (adLoop 16 dl 0 = adLoop n x k) ∧ 0 ≤ x ∧ x ≤ 1099511627776 ∧ 0 ≤ k ∧ k + 36 * n ≤ 576) (fun dv _ => (intOf dv).toNat)
              case atStart => exact ⟨16, _, 0, rfl, rfl, by have h := hz.out; simp at h; rw [h]; rfl, by omega, by omega, by omega, by omega⟩
              case round =>
                clear g1 g2 g3 g4 hz
                obtain ⟨m, x, k, rfl, rfl, hl, x0, x1, k0, k1⟩ := hrel
                by_cases hx : x > 455
                · obtain ⟨m', rfl⟩ : ∃ m', m = m' + 1 := ⟨m - 1, by
                    cases m with
                    | zero => have h1 := hl.out; have h2 := he.out; rw [h1] at h2; simp [adLoop] at h2; omega
                    | succ m => rfl⟩
                  have hl2 : Hid (adLoop 16 dl 0 = adLoop m' (x / 35) (k + 36)) := by have h := hl.out; rw [show adLoop (m' + 1) x k = adLoop m' (x / 35) (k + 36) from by rw [adLoop, if_pos hx]] at h; exact h
                  clear hl
                  have y0 : 0 ≤ x / 35 := by omega
                  go_wp2
                  go_round
                  case rel => exact ⟨m', _, _, rfl, rfl, hl2, y0, by omega, by omega, by omega⟩
                  case measure => simp [intOf]; omega
                · have hl2 : Hid (adLoop 16 dl 0 = (x, k)) := by
                    have h := hl.out; rw [Hid, h]
                    cases m with
                    | zero => rfl
                    | succ m => rw [adLoop, if_neg hx]
                  clear hl
                  have hx' : x ≤ 455 := by omega
                  have z0 : 0 ≤ 36 * x / (x + 38) := Int.ediv_nonneg (by omega) (by omega)
                  have z1 : 36 * x / (x + 38) ≤ 36 := Int.ediv_le_of_le_mul (by omega) (by omega)
                  have hbb : k + 36 * x / (x + 38) = b' := by have h := ha.out; rw [hl2.out] at h; exact h.symm
                  go_wp2_with (first | (go_at_call 85; refine (validRune_ok _ HS.out nw0).mono ?_; rintro e w' ⟨rfl, rfl⟩) | (at_builtin; refine wpList_append_own _ rfl _ _ 107 rfl B 21 i0 (.int .i32 0) 1 4 Tryd.underlying107 hi hz0 hz1 hz2 rfl (by decide) _ _ _ rfl (hown.alloc _) ⟨wc.heap.size, 0, none⟩ 1 1 [.int .i32 0] rfl rfl ?c1 ?c2 ?c3 ?c4 ?c5 ?_))
                  case c1 => exact cell_one_new _ _ _
                  case c2 => simp [Value.oneCell']
                  case c3 => unfold maxLen; omega
                  case c4 => omega
                  case c5 => simp; omega
                  intro v' w1 hown1 hgrow _
                  obtain ⟨hbel1, hsz1⟩ := below_app hbel hsz hown hgrow
                  obtain ⟨g, c', sp, rfl, hBg, hg, hxl, hcl, hcm⟩ := owns_open hown1 (by omega)
                  clear hown1 hgrow hown hbel hsz hbb z0 z1 hl2 ha he
                  obtain ⟨L, hL⟩ : ∃ L, L = runes l ++ [Value.int .i32 0] ++ sp := ⟨_, rfl⟩
                  rw [← hL] at hg
                  have hLl : L.length = c' := by rw [hL]; simp only [List.length_append] at *; omega
                  obtain ⟨cs, hcs⟩ : ∃ cs, cs = (runes l).drop q' := ⟨_, rfl⟩
                  have hcl' : cs.length = l.length - q' := by rw [hcs]; simp [runes]
                  have hcc : ∀ j v, cs[j]? = some v → w1.cell? ⟨g, q' + j, none⟩ = some v := by
                    intro j v hv
                    have hj : j < l.length - q' := by rw [← hcl']; exact (List.getElem?_eq_some_iff.1 hv).1
                    rw [cells_at hg _ (by omega), ← hv, hcs, List.getElem?_drop, ← List.getElem?_eq_getElem, hL, List.append_assoc, List.getElem?_append_left (by simp [runes]; omega)]
                  have hc1 : ∀ v ∈ cs, v.oneCell' = true := by rw [hcs]; intro v hv; have h := List.mem_of_mem_drop hv; simp [runes] at h; obtain ⟨z, _, rfl⟩ := h; rfl
                  have HL := Lib.hid hL; have HCS := Lib.hid hcs; clear hL hcs
                  have HCC := Lib.hid hcc; clear hcc
                  have hw1 : IntKind.i64.wrap ((q' : Int) + 1) = (q' : Int) + 1 := IntWalk.i64_in _ (by omega)
                  have hw0 : 0 ≤ (q' : Int) + 1 := by omega
                  have hw2 : ((q' : Int) + 1).toNat = q' + 1 := by omega
                  have hw3 : ¬ c' = q' := by omega
                  have hw4 : (q' : Int) ≤ (l.length : Int) + 1 := by omega
                  have hw5 : (q' : Int) + 1 ≤ (l.length : Int) + 1 := by omega
                  have he0 : Hid ((Tryd.prog.info? 21).map (·.size) = some 1) := by rw [hi]; simp [Hid, hz1]
                  have hn1 : Hid (cs.length = Nat.min (l.length + 1 - q') (l.length - q')) := by show _ = min _ _; omega
                  have hn2 : Hid (∀ dp : Option Addr, (0 < cs.length → dp = some ⟨g, q' + 1, none⟩) → (0 < cs.length → dp = some ⟨g, q' + 1, none⟩ ∧ ∃ ad, some (⟨g, q', none⟩ : Addr) = some ad ∧ ∀ j v, cs[j]? = some v → w1.drew.cell? (ad.add j) = some v)) := by
                    intro dp hdp h0
                    refine ⟨hdp h0, _, rfl, fun j v hv => ?_⟩
                    have := HCC.out j v hv
                    by_cases hj : j = 0
                    · subst hj; simpa [Addr.add] using this
                    · simpa [Addr.add, hj] using this
                  have hn3 : Hid (q' + 1 + cs.length ≤ L.length) := by show _ ≤ _; omega
                  obtain ⟨dp, hdp⟩ : ∃ dp, (if c' = q' + 1 then some (⟨g, 0, none⟩ : Addr) else some ⟨g, q' + 1, none⟩) = dp := ⟨_, rfl⟩
                  have hdp2 : Hid (0 < cs.length → dp = some ⟨g, q' + 1, none⟩) := fun h0 => by rw [← hdp, if_neg (by omega)]
                  go_wp2
                  go_region_law (refine step_copy_splice rfl (.tmp 174) (.tmp 177) 107 107 rfl 21 Tryd.underlying107 he0 dp (some ⟨g, q', none⟩) (l.length - q') (c' - (q' + 1)) (l.length + 1 - q') (c' - q') (by simp [Act.eval, Act.put]) (by simp [Act.eval, Act.put]) g (q' + 1) L 21 hg cs hn1 (hn2.out _ hdp2.out) hn3 hc1 B w hbel1.drew hBg ?_; intro w2 hg2 hbel2)
                  have hL2 : (splice L (q' + 1) cs).length = L.length := length_splice _ _ _ hn3
                  obtain ⟨cv, hcell⟩ : ∃ cv, w2.cell? ⟨g, q', none⟩ = some cv := ⟨_, cells_at hg2.out q' (by omega)⟩
                  have hfree := cells_free hg2.out q'
                  have hset := Lib.hid (cells_set hg2.out q' (.int .i32 nw))
                  clear hw0 hw1 hw2 hw3 hw4 hw5 he0 hn1 hn2 hn3 hdp hdp2 hc1 HCC hg hg2 hbel1
                  have hcells : Hid ((w2.setCell ⟨g, q', none⟩ (.int .i32 nw)).heap[g]? = some (.cells (runes (insAt l q' nw) ++ sp).toArray 21 (0, 0))) := by
                    show _ = _
                    rw [hset.out, HL.out, HCS.out, ins_cells _ _ _ _ _ (by simp [runes]; omega)]
                    simp [runes, insAt]
                  clear hset HL HCS
                  go_wp2
                  go_roundg r1.length
                  case measure => have h := hgk.out; simp at h; omega
                  case rel =>
                    refine ⟨n, r1, insAt l q' nw, some ⟨g, 0, none⟩, c', nw, q' + 1, b', j1, rfl, by rw [insAt_len], rfl, rfl, rfl, rfl, HDR1, hj1b, hj1a, HD2, ?_, hbel2.setCell hBg _, ?_, by rw [insAt_len]; omega, by omega, by omega, by rw [insAt_len]; push_cast; omega, nw0, nw1, ad1, ad2⟩
                    · rw [insAt_len]; exact owns_mk (sp := sp) hBg hcells.out (by simp [runes, insAt_len]) hcl hcm
                    · have h1 := hbel2.size; have h2 := HB.out; simp; omega
end Go.Proofs.YtcelplibjhannaaDoor
