/- The walks of the questions for generic arguments and for bindings; the law FnRustTemplates. -/
import Derived.Test.YtfckcdbpiepchaaGreatDoorNs00
import Derived.Test.YtfckcdbpiepchaaGreatDoorNs01
import Derived.Test.YtfckcdbpiepchaaGreatDoorNs02
import Derived.Test.YtfckcdbpiepchaaGreatDoorNs03
import Derived.Test.YtfckcdbpiepchaaGreatDoorNs04
import Derived.Test.YtfckcdbpiepchaaGreatDoorNs05
import Derived.Test.YtfckcdbpiepchaaGreatDoorNs06
import Derived.Test.YtfckcdbpiepchaaGreatDoorNs07
import Derived.Test.YtfckcdbpiepchaaGreatDoorNs08
import Derived.Test.YtfckcdbpiepchaaGreatDoorNs09
import Derived.Test.YtfckcdbpiepchaaGreatDoorNs10
import Derived.Test.YtfckcdbpiepchaaGreatDoorNs11
import Derived.Test.YtfckcdbpiepchaaGreatDoorNs12
import Derived.Test.YtfckcdbpiepchaaGreatDoorNs13
import Derived.Test.YtfckcdbpiepchaaGreatDoorNs14
import Derived.Test.YtfckcdbpiepchaaGreatDoorNs15
import Derived.Test.YtfckcdbpiepchaaGreatDoorNs16
import Derived.Test.YtfckcdbpiepchaaGreatDoorNs17
import Derived.Test.YtfckcdbpiepchaaGreatDoorNs18
import Derived.Test.YtfckcdbpiepchaaGreatDoorNs19
import Derived.Test.YtfckcdbpiepchaaGreatDoorNs20
import Derived.Test.YtfckcdbpiepchaaGreatDoorNs21
import Derived.Test.YtfckcdbpiepchaaGreatDoorNs22
import Derived.Test.YtfckcdbpiepchaaGreatDoorNs23
import Derived.Test.YtfckcdbpiepchaaGreatDoorNs24
import Derived.Test.YtfckcdbpiepchaaGreatDoorNs25
import Derived.Test.YtfckcdbpiepchaaGreatDoorNs26
import Derived.Test.YtfckcdbpiepchaaGreatDoorNs27
import Derived.Test.YtfckcdbpiepchaaGreatDoorNs28
import Derived.Test.YtfckcdbpiepchaaGreatDoorNs29
import Derived.Test.YtfckcdbpiepchaaGreatDoorNs30
import Derived.Test.YtfckcdbpiepchaaGreatDoorNs31
import Derived.Test.YtfckcdbpiepchaaGreatDoorNs32
import Derived.Test.YtfckcdbpiepchaaGreatDoorNs33
import Derived.Test.YtfckcdbpiepchaaGreatDoorNs34
import Derived.Test.YtfckcdbpiepchaaGreatDoorNs35
import Derived.Test.YtfckcdbpiepchaaGreatDoorNs36
import Derived.Test.YtfckcdbpiepchaaGreatDoorNs37
import Derived.Test.YtfckcdbpiepchaaGreatDoorNs38
import Derived.Test.YtfckcdbpiepchaaGreatDoorXt
import Derived.Test.YtfckcdbpiepchaaGreatDoorNk
namespace Go.Proofs.YtfckcdbpiepchaaGreatDoor
set_option linter.all false
open Go.RowKit

theorem any_drop {f : ya → Bool} {kids : List ya} {k : Nat} (h : k < kids.length) : (kids.drop k).any f = (f (kids.getD k .zero) || (kids.drop (k + 1)).any f) := by
  rw [List.drop_eq_getElem_cons h, List.any_cons, List.getD_eq_getElem?_getD, List.getElem?_eq_getElem h]; rfl
theorem kids_any {w : World} {k : Nat} {l : UInt8} {nm : List UInt8} {n : Nat} {f : Bool} {kids : List ya} {v : Value} (h : yg w (.mk k l nm n f kids) v) :
    ∃ (kv : Int) (ao : Option Addr) (cap : Nat), v = .agg #[.int .i64 kv, .int .u8 l.toNat, .string ⟨nm.toArray⟩, .int .u64 n, .bool f, .slice ao kids.length cap] ∧ KV kv k ∧ qz w ao cap kids := by
  cases h with
  | @mk kv _ _ _ _ _ _ ao cap V h1 h2 h3 h4 h5 h6 h7 h8 =>
  refine ⟨kv, ao, cap, rfl, h1, ⟨h3, h4, h6, fun i b o hi ha => ⟨V i 0, V i 1, V i 2, V i 3, V i 4, V i 5, ?_, ?_, ?_, ?_, ?_, ?_, h8 i hi⟩⟩⟩
  · exact h7 i b o 0 hi ha (by omega)
  · exact h7 i b o 1 hi ha (by omega)
  · exact h7 i b o 2 hi ha (by omega)
  · exact h7 i b o 3 hi ha (by omega)
  · exact h7 i b o 4 hi ha (by omega)
  · exact h7 i b o 5 hi ha (by omega)
set_option maxHeartbeats 8000000 in
set_option maxRecDepth 100000 in
theorem hasArgs_any : ∀ (m : Nat) {t : ya} {v : Value} {w : World}, t.wt ≤ m → yg w t v → Calls Tryz.prog 32 #[v] w fun e w' => Rtn w (.bool t.args) e w' := by
  intro m
  induction m with
  | zero => intro t v w h; have := yei t; omega
  | succ m ih =>
    intro t v w hm htr
    obtain ⟨k, l, nm, n, f, kids⟩ := t
    rw [zd] at hm
    have hch : ∀ i, i < kids.length → ∀ v w, yg w (kids.getD i .zero) v → Calls Tryz.prog 32 #[v] w fun e w' => Rtn w (.bool (kids.getD i .zero).args) e w' := fun i hi v w h => ih (by have := xn (ybi hi); omega) h
    obtain ⟨kv, ao, cap, rfl, hkv, hK⟩ := kids_any htr
    have hkq : ∀ z : Nat, 1 ≤ z ∧ z ≤ 21 → (kv == (z : Int)) = decide (k = z) := fun z hz => by
      rw [Bool.eq_iff_iff, beq_iff_eq, decide_eq_true_eq]; unfold KV at hkv; omega
    have hc1 := hK.c1
    have hc2 := hK.c2
    have hnn := hK.nn
    unfold maxLen at hc2
    obtain ⟨B, hB⟩ : ∃ B, B = w.heap.size := ⟨_, rfl⟩
    have b0 := fun x => zn w #[.int .i64 kv, .int .u8 l.toNat, .string ⟨nm.toArray⟩, .int .u64 n, .bool f, .slice ao kids.length cap] 28 0 _ rfl x
    have b5 := fun x => zn w #[.int .i64 kv, .int .u8 l.toNat, .string ⟨nm.toArray⟩, .int .u64 n, .bool f, .slice ao kids.length cap] 28 5 _ rfl x
    have HB := Lib.hid hB; have HK := Lib.hid hK; have HC := Lib.hid hch
    clear hB hK hch htr hm ih
    rw [args_mk]
    by_cases c6 : k = 6
    · have q6 := (hkq 6 (by omega)).trans (decide_eq_true c6)
      obtain rfl : kv = 6 := by simpa using q6
      rw [decide_eq_true c6]
      go_enter Tryz.func32, Tryz.ntmps32
      go_wp2
      go_ret
      exact ⟨rfl, _, yb _ _⟩
    have q6 : (kv == 6) = false := (hkq 6 (by omega)).trans (decide_eq_false c6)
    rw [decide_eq_false c6]
    by_cases c17 : k = 17 ∧ 1 < kids.length
    · have q17 := (hkq 17 (by omega)).trans (decide_eq_true c17.1)
      obtain rfl : kv = 17 := by simpa using q17
      have ql : decide ((1 : Int) < (kids.length : Int)) = true := decide_eq_true (by omega)
      rw [decide_eq_true c17]
      clear hkq hkv
      go_enter Tryz.func32, Tryz.ntmps32
      go_wp2
      go_ret
      exact ⟨rfl, _, yb _ _⟩
    rw [decide_eq_false c17]
    have hsp : ((kv == 17) = false) ∨ (kv = 17 ∧ decide ((1 : Int) < (kids.length : Int)) = false) := by
      by_cases h : k = 17
      · have q17 := (hkq 17 (by omega)).trans (decide_eq_true h)
        exact .inr ⟨by simpa using q17, decide_eq_false (by omega)⟩
      · exact .inl ((hkq 17 (by omega)).trans (decide_eq_false h))
    clear hkq hkv c6 c17
    rcases hsp with q17 | ⟨rfl, ql⟩
    · go_enter Tryz.func32, Tryz.ntmps32
      go_wp2
      go_loopw [22] (fun i wr => ∃ (j : Nat), j ≤ kids.length ∧ i = .int .i64 j ∧ Below B w wr ∧ B ≤ wr.heap.size ∧ Hid (kids.any ya.args = (kids.drop j).any ya.args)) (fun i _ => kids.length - (intOf i).toNat)
      case atStart => exact ⟨0, by omega, rfl, (Below.refl _ w).alloc (Nat.le_of_eq HB.out) _, by rw [HB.out]; simp, Lib.hid rfl⟩
      case round =>
        obtain ⟨j, hj, rfl, hbr, hsz, HR⟩ := hrel
        by_cases hlt : j < kids.length
        · obtain ⟨kb, ko, rfl⟩ := hnn (fun h => by rw [h] at hlt; simp at hlt)
          obtain ⟨v0, v1, v2, v3, v4, v5, KK, tr⟩ := (HK.out.at HB.out hbr).elB j hlt
          obtain ⟨e0, e1, e2, e3, e4, e5⟩ := KK
          obtain ⟨kv2, c, nm2, n2, f2, kao, kln, kcap, rfl, rfl, rfl, rfl, rfl, rfl⟩ := tr.shape
          have hd := any_drop (f := ya.args) hlt
          have HT := Lib.hid tr; have HL := Lib.hid hbr; have HD := Lib.hid hd
          have HSZ := Lib.hid hsz
          clear hnn tr hd hbr hsz
          go_wp2_with fail
          refine (HC.out j hlt _ _ (HT.out.alc _)).mono ?_
          rintro e w1 ⟨rfl, x, rfl⟩
          rw [yb, yd]
          generalize Xt.mk _ _ = x1
          obtain ⟨hb1, hs1⟩ := ku HL.out HSZ.out x1
          generalize ovr wr x1 = wr1 at hb1 hs1 ⊢
          cases hq : (kids.getD j .zero).args with
          | true =>
            have H1 : Hid (kids.any ya.args = true) := Lib.hid (by rw [HR.out, HD.out, hq]; rfl)
            have HB1 := Lib.hid hb1
            clear e0 e1 e2 e3 e4 e5 hb1 hs1 hq
            go_wp2
            go_ret
            exact ⟨by rw [H1.out]; simp, xb HB.out HB1.out⟩
          | false =>
            have H1 : Hid (kids.any ya.args = (kids.drop (j + 1)).any ya.args) := Lib.hid (by rw [HR.out, HD.out, hq]; rfl)
            have HB1 := Lib.hid hb1; have HS1 := Lib.hid hs1
            clear e0 e1 e2 e3 e4 e5 hb1 hs1 hq
            go_wp2
            go_roundw
            case rel => exact ⟨j + 1, by omega, by go_num, HB1.out, HS1.out, H1⟩
            case measure => simp [intOf]; omega
        · have hr : kids.any ya.args = false := by rw [HR.out, List.drop_of_length_le (by omega)]; rfl
          have HR2 := Lib.hid hr; have HL := Lib.hid hbr
          clear hr hbr
          go_wp2
          go_ret
          exact ⟨by rw [HR2.out]; simp [], xb HB.out HL.out⟩
    · go_enter Tryz.func32, Tryz.ntmps32
      go_wp2
      go_loopw [22] (fun i wr => ∃ (j : Nat), j ≤ kids.length ∧ i = .int .i64 j ∧ Below B w wr ∧ B ≤ wr.heap.size ∧ Hid (kids.any ya.args = (kids.drop j).any ya.args)) (fun i _ => kids.length - (intOf i).toNat)
      case atStart => exact ⟨0, by omega, rfl, (Below.refl _ w).alloc (Nat.le_of_eq HB.out) _, by rw [HB.out]; simp, Lib.hid rfl⟩
      case round =>
        obtain ⟨j, hj, rfl, hbr, hsz, HR⟩ := hrel
        by_cases hlt : j < kids.length
        · obtain ⟨kb, ko, rfl⟩ := hnn (fun h => by rw [h] at hlt; simp at hlt)
          obtain ⟨v0, v1, v2, v3, v4, v5, KK, tr⟩ := (HK.out.at HB.out hbr).elB j hlt
          obtain ⟨e0, e1, e2, e3, e4, e5⟩ := KK
          obtain ⟨kv2, c, nm2, n2, f2, kao, kln, kcap, rfl, rfl, rfl, rfl, rfl, rfl⟩ := tr.shape
          have hd := any_drop (f := ya.args) hlt
          have HT := Lib.hid tr; have HL := Lib.hid hbr; have HD := Lib.hid hd
          have HSZ := Lib.hid hsz
          clear hnn tr hd hbr hsz
          go_wp2_with fail
          refine (HC.out j hlt _ _ (HT.out.alc _)).mono ?_
          rintro e w1 ⟨rfl, x, rfl⟩
          rw [yb, yd]
          generalize Xt.mk _ _ = x1
          obtain ⟨hb1, hs1⟩ := ku HL.out HSZ.out x1
          generalize ovr wr x1 = wr1 at hb1 hs1 ⊢
          cases hq : (kids.getD j .zero).args with
          | true =>
            have H1 : Hid (kids.any ya.args = true) := Lib.hid (by rw [HR.out, HD.out, hq]; rfl)
            have HB1 := Lib.hid hb1
            clear e0 e1 e2 e3 e4 e5 hb1 hs1 hq
            go_wp2
            go_ret
            exact ⟨by rw [H1.out]; simp, xb HB.out HB1.out⟩
          | false =>
            have H1 : Hid (kids.any ya.args = (kids.drop (j + 1)).any ya.args) := Lib.hid (by rw [HR.out, HD.out, hq]; rfl)
            have HB1 := Lib.hid hb1; have HS1 := Lib.hid hs1
            clear e0 e1 e2 e3 e4 e5 hb1 hs1 hq
            go_wp2
            go_roundw
            case rel => exact ⟨j + 1, by omega, by go_num, HB1.out, HS1.out, H1⟩
            case measure => simp [intOf]; omega
        · have hr : kids.any ya.args = false := by rw [HR.out, List.drop_of_length_le (by omega)]; rfl
          have HR2 := Lib.hid hr; have HL := Lib.hid hbr
          clear hr hbr
          go_wp2
          go_ret
          exact ⟨by rw [HR2.out]; simp [], xb HB.out HL.out⟩
set_option maxHeartbeats 8000000 in
set_option maxRecDepth 100000 in
theorem hasBnds_any : ∀ (m : Nat) {t : ya} {v : Value} {w : World}, t.wt ≤ m → yg w t v → Calls Tryz.prog 27 #[v] w fun e w' => Rtn w (.bool t.bnds) e w' := by
  intro m
  induction m with
  | zero => intro t v w h; have := yei t; omega
  | succ m ih =>
    intro t v w hm htr
    obtain ⟨k, l, nm, n, f, kids⟩ := t
    rw [zd] at hm
    have hch : ∀ i, i < kids.length → ∀ v w, yg w (kids.getD i .zero) v → Calls Tryz.prog 27 #[v] w fun e w' => Rtn w (.bool (kids.getD i .zero).bnds) e w' := fun i hi v w h => ih (by have := xn (ybi hi); omega) h
    obtain ⟨kv, ao, cap, rfl, hkv, hK⟩ := kids_any htr
    have hkq : ∀ z : Nat, 1 ≤ z ∧ z ≤ 21 → (kv == (z : Int)) = decide (k = z) := fun z hz => by
      rw [Bool.eq_iff_iff, beq_iff_eq, decide_eq_true_eq]; unfold KV at hkv; omega
    have hc1 := hK.c1
    have hc2 := hK.c2
    have hnn := hK.nn
    unfold maxLen at hc2
    obtain ⟨B, hB⟩ : ∃ B, B = w.heap.size := ⟨_, rfl⟩
    have b0 := fun x => zn w #[.int .i64 kv, .int .u8 l.toNat, .string ⟨nm.toArray⟩, .int .u64 n, .bool f, .slice ao kids.length cap] 28 0 _ rfl x
    have b5 := fun x => zn w #[.int .i64 kv, .int .u8 l.toNat, .string ⟨nm.toArray⟩, .int .u64 n, .bool f, .slice ao kids.length cap] 28 5 _ rfl x
    have HB := Lib.hid hB; have HK := Lib.hid hK; have HC := Lib.hid hch
    clear hB hK hch htr hm ih
    rw [bnds_mk]
    by_cases c18 : k = 18
    · have q18 := (hkq 18 (by omega)).trans (decide_eq_true c18)
      obtain rfl : kv = 18 := by simpa using q18
      rw [decide_eq_true c18]
      go_enter Tryz.func27, Tryz.ntmps27
      go_wp2
      go_ret
      exact ⟨rfl, _, yb _ _⟩
    have q18 : (kv == 18) = false := (hkq 18 (by omega)).trans (decide_eq_false c18)
    rw [decide_eq_false c18]
    clear hkq hkv c18
    go_enter Tryz.func27, Tryz.ntmps27
    go_wp2
    go_loopw [11] (fun i wr => ∃ (j : Nat), j ≤ kids.length ∧ i = .int .i64 j ∧ Below B w wr ∧ B ≤ wr.heap.size ∧ Hid (kids.any ya.bnds = (kids.drop j).any ya.bnds)) (fun i _ => kids.length - (intOf i).toNat)
    case atStart => exact ⟨0, by omega, rfl, (Below.refl _ w).alloc (Nat.le_of_eq HB.out) _, by rw [HB.out]; simp, Lib.hid rfl⟩
    case round =>
      obtain ⟨j, hj, rfl, hbr, hsz, HR⟩ := hrel
      by_cases hlt : j < kids.length
      · obtain ⟨kb, ko, rfl⟩ := hnn (fun h => by rw [h] at hlt; simp at hlt)
        obtain ⟨v0, v1, v2, v3, v4, v5, KK, tr⟩ := (HK.out.at HB.out hbr).elB j hlt
        obtain ⟨e0, e1, e2, e3, e4, e5⟩ := KK
        obtain ⟨kv2, c, nm2, n2, f2, kao, kln, kcap, rfl, rfl, rfl, rfl, rfl, rfl⟩ := tr.shape
        have hd := any_drop (f := ya.bnds) hlt
        have HT := Lib.hid tr; have HL := Lib.hid hbr; have HD := Lib.hid hd
        have HSZ := Lib.hid hsz
        clear hnn tr hd hbr hsz
        go_wp2_with fail
        refine (HC.out j hlt _ _ (HT.out.alc _)).mono ?_
        rintro e w1 ⟨rfl, x, rfl⟩
        rw [yb, yd]
        generalize Xt.mk _ _ = x1
        obtain ⟨hb1, hs1⟩ := ku HL.out HSZ.out x1
        generalize ovr wr x1 = wr1 at hb1 hs1 ⊢
        cases hq : (kids.getD j .zero).bnds with
        | true =>
          have H1 : Hid (kids.any ya.bnds = true) := Lib.hid (by rw [HR.out, HD.out, hq]; rfl)
          have HB1 := Lib.hid hb1
          clear e0 e1 e2 e3 e4 e5 hb1 hs1 hq
          go_wp2
          go_ret
          exact ⟨by rw [H1.out]; simp, xb HB.out HB1.out⟩
        | false =>
          have H1 : Hid (kids.any ya.bnds = (kids.drop (j + 1)).any ya.bnds) := Lib.hid (by rw [HR.out, HD.out, hq]; rfl)
          have HB1 := Lib.hid hb1; have HS1 := Lib.hid hs1
          clear e0 e1 e2 e3 e4 e5 hb1 hs1 hq
          go_wp2
          go_roundw
          case rel => exact ⟨j + 1, by omega, by go_num, HB1.out, HS1.out, H1⟩
          case measure => simp [intOf]; omega
      · have hr : kids.any ya.bnds = false := by rw [HR.out, List.drop_of_length_le (by omega)]; rfl
        have HR2 := Lib.hid hr; have HL := Lib.hid hbr
        clear hr hbr
        go_wp2
        go_ret
        exact ⟨by rw [HR2.out]; simp [], xb HB.out HL.out⟩
theorem args_st {t : ya} {v : Value} {w : World} (htr : yg w t v) : Stays w 32 #[v] (.bool t.args) := fun x => by
  refine (hasArgs_any _ (Nat.le_refl _) (htr.ovr x)).mono ?_
  rintro e w' ⟨h1, y, rfl⟩
  exact ⟨h1, _, yd _ _ _⟩
theorem bnds_st {t : ya} {v : Value} {w : World} (htr : yg w t v) : Stays w 27 #[v] (.bool t.bnds) := fun x => by
  refine (hasBnds_any _ (Nat.le_refl _) (htr.ovr x)).mono ?_
  rintro e w' ⟨h1, y, rfl⟩
  exact ⟨h1, _, yd _ _ _⟩
set_option maxHeartbeats 2000000 in
set_option maxRecDepth 100000 in
theorem templates_any {t : ya} {v h : Value} {how : List Int} {w : World} (htr : yg w t v) (hs : Sml t) (hG : Gl w) (hH : jk w h how) :
    Calls Tryz.prog 11 #[v, h] w fun e w' => e = .returned (.bool true) ∧ Below w.heap.size w w' := by
  have hz := fun o => yzl (htr.alc o)
  have hf := fun o => yvq (htr.alc o) hs (hG.alloc o) (hH.al o)
  have ha := fun o => args_st (htr.alc o)
  have hn := fun hF o => yrg (htr.alc o) hF (hG.alloc o) (hH.al o)
  have ht := fun (x : List UInt8) hT o => yrc (x := x) (htr.alc o) hT
  have hd := fun (x : List UInt8) (hT : yn1 t how true x) o => yup hT false false false false false false (p := 0) (by omega) (hG.alloc o)
  obtain ⟨kv, l, nm, n, f, ao, ln, cap, rfl⟩ := yek htr
  obtain ⟨hoa, hoc, rfl, hc1, hc2, -⟩ := hH
  unfold maxLen at hc2
  have b0 := fun x => zn w #[.int .i64 kv, .int .u8 l.toNat, .string ⟨nm.toArray⟩, .int .u64 n, .bool f, .slice ao ln cap] 28 0 _ rfl x
  have b1 := fun x => zn w #[.int .i64 kv, .int .u8 l.toNat, .string ⟨nm.toArray⟩, .int .u64 n, .bool f, .slice ao ln cap] 28 1 _ rfl x
  have b2 := fun x => zn w #[.int .i64 kv, .int .u8 l.toNat, .string ⟨nm.toArray⟩, .int .u64 n, .bool f, .slice ao ln cap] 28 2 _ rfl x
  have b3 := fun x => zn w #[.int .i64 kv, .int .u8 l.toNat, .string ⟨nm.toArray⟩, .int .u64 n, .bool f, .slice ao ln cap] 28 3 _ rfl x
  have b4 := fun x => zn w #[.int .i64 kv, .int .u8 l.toNat, .string ⟨nm.toArray⟩, .int .u64 n, .bool f, .slice ao ln cap] 28 4 _ rfl x
  have b5 := fun x => zn w #[.int .i64 kv, .int .u8 l.toNat, .string ⟨nm.toArray⟩, .int .u64 n, .bool f, .slice ao ln cap] 28 5 _ rfl x
  have HZ := Lib.hid hz; have HF := Lib.hid hf; have HA := Lib.hid ha; have HN := Lib.hid hn; have HT := Lib.hid ht; have HD := Lib.hid hd
  clear hz hf ha hn ht hd htr hs hG
  unfold ydj at HD
  by_cases hzb : zzB t = true
  · rw [hzb] at HZ
    by_cases hlen : how.length ≤ 2147483647
    · have q1 : decide ((2147483647 : Int) < (how.length : Int)) = false := decide_eq_false (by omega)
      by_cases hfb : yng t how = true
      · have hF := yyt hfb
        rw [hfb] at HF
        by_cases hab : t.args = false
        · rw [hab] at HA
          obtain ⟨x, hx, hne, hT⟩ := ys5 hF true
          obtain ⟨hx1, hx2⟩ := ys6 hF (says_args hx hab false)
          have HN1 := Lib.hid (HN.out hF); have HT1 := Lib.hid (HT.out x hx1); have HD1 := Lib.hid (HD.out x hT)
          rw [ytf] at HD1
          clear HN HT HD hab hF hx hT hx1 hfb hzb
          generalize (wGo false how 24 t .zero).out = out at HN1 HD1
          go_enter Tryz.func11, Tryz.ntmps11
          go_wp2_with fail
          refine (HZ.out _).at.mono ?_
          rintro e w1 ⟨rfl, z, rfl⟩
          go_wp2_with fail
          refine (HF.out _ z).mono ?_
          rintro e w1 ⟨rfl, z1, rfl⟩
          go_wp2_with fail
          refine (HA.out _ z1).mono ?_
          rintro e w1 ⟨rfl, z1, rfl⟩
          go_wp2_with fail
          refine (HN1.out _ z1).mono ?_
          rintro e w1 ⟨rfl, z2, rfl⟩
          go_wp2_with fail
          refine (HD1.out _ z2).mono ?_
          rintro e w1 ⟨rfl, z3, rfl⟩
          go_wp2_with fail
          refine (HT1.out _ z3).mono ?_
          rintro e w1 ⟨rfl, z4, rfl⟩
          go_wp2
          go_ret
          exact ⟨by simp, ybx _ z4⟩
        · have hab' : t.args = true := by simpa using hab
          rw [hab'] at HA
          clear HN HT HD
          go_enter Tryz.func11, Tryz.ntmps11
          go_wp2_with fail
          refine (HZ.out _).at.mono ?_
          rintro e w1 ⟨rfl, z, rfl⟩
          go_wp2_with fail
          refine (HF.out _ z).mono ?_
          rintro e w1 ⟨rfl, z1, rfl⟩
          go_wp2_with fail
          refine (HA.out _ z1).mono ?_
          rintro e w1 ⟨rfl, z1, rfl⟩
          go_wp2
          go_ret
          exact ⟨rfl, ybx _ z1⟩
      · have hfb' : yng t how = false := by simpa using hfb
        rw [hfb'] at HF
        go_enter Tryz.func11, Tryz.ntmps11
        go_wp2_with fail
        refine (HZ.out _).at.mono ?_
        rintro e w1 ⟨rfl, z, rfl⟩
        go_wp2_with fail
        refine (HF.out _ z).mono ?_
        rintro e w1 ⟨rfl, z1, rfl⟩
        go_wp2
        go_ret
        exact ⟨rfl, ybx _ z1⟩
    · have q1 : decide ((2147483647 : Int) < (how.length : Int)) = true := decide_eq_true (by omega)
      go_enter Tryz.func11, Tryz.ntmps11
      go_wp2_with fail
      refine (HZ.out _).at.mono ?_
      rintro e w1 ⟨rfl, z, rfl⟩
      go_wp2
      go_ret
      exact ⟨rfl, ybx _ z⟩
  · have hzb' : zzB t = false := by simpa using hzb
    rw [hzb'] at HZ
    go_enter Tryz.func11, Tryz.ntmps11
    go_wp2_with fail
    refine (HZ.out _).at.mono ?_
    rintro e w1 ⟨rfl, z, rfl⟩
    go_wp2
    go_ret
    exact ⟨rfl, ybx _ z⟩
end Go.Proofs.YtfckcdbpiepchaaGreatDoor
