/- The walks of the law FnMaxLengthTree: a text is cut to a length. -/
import Derived.Test.YtfckcdbpiepchaaGreatDoorNs00
import Derived.Test.YtfckcdbpiepchaaGreatDoorNs01
import Derived.Test.YtfckcdbpiepchaaGreatDoorNs02
import Derived.Test.YtfckcdbpiepchaaGreatDoorNs03
import Derived.Test.YtfckcdbpiepchaaGreatDoorNs04
import Derived.Test.YtfckcdbpiepchaaGreatDoorNs05
import Derived.Test.YtfckcdbpiepchaaGreatDoorNs06
import Derived.Test.YtfckcdbpiepchaaGreatDoorNs07
import Derived.Test.YtfckcdbpiepchaaGreatDoorNs08
import Derived.Test.YtfckcdbpiepchaaGreatDoorNs09
import Derived.Test.YtfckcdbpiepchaaGreatDoorNs10
import Derived.Test.YtfckcdbpiepchaaGreatDoorNs11
import Derived.Test.YtfckcdbpiepchaaGreatDoorNs12
import Derived.Test.YtfckcdbpiepchaaGreatDoorNs13
import Derived.Test.YtfckcdbpiepchaaGreatDoorNs14
import Derived.Test.YtfckcdbpiepchaaGreatDoorNs15
import Derived.Test.YtfckcdbpiepchaaGreatDoorNs16
import Derived.Test.YtfckcdbpiepchaaGreatDoorNs17
import Derived.Test.YtfckcdbpiepchaaGreatDoorNs18
import Derived.Test.YtfckcdbpiepchaaGreatDoorNs19
import Derived.Test.YtfckcdbpiepchaaGreatDoorNs20
import Derived.Test.YtfckcdbpiepchaaGreatDoorNs21
import Derived.Test.YtfckcdbpiepchaaGreatDoorNs22
import Derived.Test.YtfckcdbpiepchaaGreatDoorNs23
import Derived.Test.YtfckcdbpiepchaaGreatDoorNs24
import Derived.Test.YtfckcdbpiepchaaGreatDoorNs25
import Derived.Test.YtfckcdbpiepchaaGreatDoorNs26
import Derived.Test.YtfckcdbpiepchaaGreatDoorNs27
import Derived.Test.YtfckcdbpiepchaaGreatDoorNs28
import Derived.Test.YtfckcdbpiepchaaGreatDoorNs29
import Derived.Test.YtfckcdbpiepchaaGreatDoorNs30
import Derived.Test.YtfckcdbpiepchaaGreatDoorNs31
import Derived.Test.YtfckcdbpiepchaaGreatDoorNs32
import Derived.Test.YtfckcdbpiepchaaGreatDoorNs33
import Derived.Test.YtfckcdbpiepchaaGreatDoorNs34
import Derived.Test.YtfckcdbpiepchaaGreatDoorNs35
import Derived.Test.YtfckcdbpiepchaaGreatDoorNs36
import Derived.Test.YtfckcdbpiepchaaGreatDoorNs37
import Derived.Test.YtfckcdbpiepchaaGreatDoorNs38
import Derived.Test.YtfckcdbpiepchaaGreatDoorXt
namespace Go.Proofs.YtfckcdbpiepchaaGreatDoor
set_option linter.all false
open Go.RowKit

/-- all bytes are below 128 -/
def asc (x : List UInt8) : Bool := x.all fun c => decide (c.toNat < 128)
set_option maxRecDepth 100000 in
theorem ascii_any (x : List UInt8) (hl : x.length ≤ 600000) (w : World) : Calls Tryz.prog 24 #[.string ⟨x.toArray⟩] w fun e w' => e = .returned (.bool (asc x)) ∧ w = w' := by
  go_enter Tryz.func24, Tryz.ntmps24
  go_wp2
  go_loop [6] (fun i => ∃ k : Nat, k ≤ x.length ∧ i = .int .i64 k ∧ asc (x.take k) = true) (fun i => x.length - (intOf i).toNat)
  case atStart => exact ⟨0, by omega, rfl, by simp [asc]⟩
  case round =>
    obtain ⟨k, hk, rfl, hp⟩ := hrel
    by_cases hlt : k < x.length
    · have hx : x.take (k + 1) = x.take k ++ [x[k]] := by rw [List.take_succ_eq_append_getElem hlt]
      by_cases hc : (x[k]).toNat < 128
      · have H : Hid (asc (x.take (k + 1)) = true) := Lib.hid (by rw [hx]; unfold asc at hp ⊢; rw [List.all_append, hp]; simp [hc])
        have q : ¬ 128 ≤ ((x[k]).toNat : Int) := by omega
        clear hp hx
        go_wp2
        go_round
        case rel => exact ⟨k + 1, by omega, by go_num, H.out⟩
        case measure => simp [intOf]; omega
      · have H : Hid (asc x = false) := Lib.hid (by unfold asc; rw [List.all_eq_false]; exact ⟨_, List.getElem_mem hlt, by simpa using hc⟩)
        have q : 128 ≤ ((x[k]).toNat : Int) := by omega
        clear hp hx
        go_wp2
        go_ret
        exact ⟨by rw [H.out]; rfl, rfl⟩
    · obtain rfl : k = x.length := by omega
      rw [List.take_length] at hp
      have H := Lib.hid hp; clear hp
      go_wp2
      go_ret
      exact ⟨by rw [H.out]; rfl, rfl⟩
theorem asc_st (x : List UInt8) (hl : x.length ≤ 600000) (w : World) : Stays w 24 #[.string ⟨x.toArray⟩] (.bool (asc x)) :=
  ybm fun y => (ascii_any x hl _).mono fun e w' ⟨h1, h2⟩ => ⟨h1, by subst h2; exact Below.refl _ _⟩
theorem wf_i64 {z : Int} (h : (Lit.int .i64 z).wf = true) : -9223372036854775808 ≤ z ∧ z ≤ 9223372036854775807 := by
  simp only [Lit.wf, Bool.and_eq_true, decide_eq_true_eq] at h
  have h1 : IntKind.i64.min = -9223372036854775808 := rfl
  have h2 : IntKind.i64.max = 9223372036854775807 := rfl
  omega
theorem at_30 {x : Int} (h : 0 ≤ x) : ∃ q : Nat, q < 30 ∧ x % 30 = (q : Int) := ⟨(x % 30).toNat, by omega, by omega⟩
set_option maxRecDepth 100000 in
theorem idAt_any {z : Int} (hz : -9223372036854775808 ≤ z ∧ z ≤ 9223372036854775807) (w : World) : Calls Tryz.prog 16 #[.int .i64 z, .int .i64 30] w fun e w' => (∃ q : Nat, q < 30 ∧ e = .returned (.int .i64 q)) ∧ w = w' := by
  obtain ⟨h0, h1⟩ := hz
  have h2 : -30 < z.tmod 30 := by have := Int.lt_tmod_of_pos z (show (0 : Int) < 30 by omega); omega
  have h3 : z.tmod 30 < 30 := Int.tmod_lt_of_pos z (by omega)
  go_enter Tryz.func16, Tryz.ntmps16
  go_wp2
  go_ret
  obtain ⟨q, hq, he⟩ := at_30 (x := z.tmod 30 + 30) (by omega)
  exact ⟨⟨q, hq, by rw [← he]; rfl⟩, rfl⟩
theorem cut_take {q : Nat} (x : List UInt8) : yde (yij (q + 1)) x = x.take (min x.length (2 ^ (q + 1))) := by
  have hp : 0 < 2 ^ (q + 1) := Nat.two_pow_pos _
  have hm : yij (q + 1) = ((2 ^ (q + 1) : Nat) : Int) := by unfold yij; rw [if_pos (Nat.succ_pos q)]
  rw [hm]
  unfold yde
  by_cases h : (2 ^ (q + 1) : Nat) < x.length
  · rw [if_pos ⟨by omega, by omega⟩, Nat.min_eq_right (by omega)]; rfl
  · rw [if_neg (by omega), Nat.min_eq_left (by omega), List.take_length]
set_option maxHeartbeats 4000000 in
set_option maxRecDepth 100000 in
theorem limited_any {w : World} {l x : List UInt8} {z : Int} (hz : -9223372036854775808 ≤ z ∧ z ≤ 9223372036854775807) (hx : x.length ≤ 600000)
    (hT : ∀ p : Nat, p ≤ 30 → Calls Tryz.prog 17 #[.string ⟨l.toArray⟩, ydj false false false false false false false p] w fun e w' => e = .returned (.tuple #[.string ⟨(yde (yij p) x).toArray⟩, .int .i64 0]) ∧ Below w.heap.size w w') :
    Calls Tryz.prog 25 #[.string ⟨l.toArray⟩, .string ⟨x.toArray⟩, .int .i64 z] w fun e w' => e = .returned (.bool true) ∧ Below w.heap.size w w' := by
  have H := Lib.hid hT
  clear hT
  unfold ydj at H
  go_enter Tryz.func25, Tryz.ntmps25
  go_wp2_with fail
  refine (idAt_any hz _).mono ?_
  rintro e w' ⟨⟨q, hq, rfl⟩, rfl⟩
  have H1 := H.out (q + 1) (by omega)
  rw [cut_take x, show ((q + 1 : Nat) : Int) = 1 + (q : Int) by omega] at H1
  have HD := Lib.hid H1
  clear H1 H
  have hpl : 2 ^ (q + 1) ≤ 2 ^ 30 := Nat.pow_le_pow_right (by omega) (by omega)
  have hpw : wrap64 (2 ^ (1 + q)) = ((2 ^ (q + 1) : Nat) : Int) := by
    have h2 : (2 : Int) ^ (1 + q) = ((2 ^ (q + 1) : Nat) : Int) := by rw [Nat.add_comm 1 q]; push_cast; rfl
    rw [h2]
    unfold wrap64
    generalize 2 ^ (q + 1) = P at hpl ⊢
    omega
  have hrg : 0 ≤ min (x.length : Int) (wrap64 (2 ^ (1 + q))) ∧ min (x.length : Int) (wrap64 (2 ^ (1 + q))) ≤ (x.length : Int) := by
    rw [hpw]
    generalize 2 ^ (q + 1) = P at hpl ⊢
    omega
  have HP := Lib.hid hpw; have HL := Lib.hid hpl
  clear hpl hpw
  go_wp2_with fail
  refine HD.out.mono ?_
  rintro e w1 ⟨rfl, hb⟩
  go_wp2
  go_ret
  have he : min x.length (2 ^ (q + 1)) = min (min (x.length : Int) (wrap64 (2 ^ (1 + q)))).toNat x.length := by
    rw [HP.out]
    generalize 2 ^ (q + 1) = P
    omega
  exact ⟨by simp [he], hb⟩
theorem limited_st {w : World} {t : ya} {how : List Int} {x : List UInt8} {z : Int} (hz : -9223372036854775808 ≤ z ∧ z ≤ 9223372036854775807) (hx : x.length ≤ 600000) (hT : yn1 t how false x) (hG : Gl w) :
    Stays w 25 #[.string ⟨(95 :: 82 :: (wGo false how 24 t .zero).out).toArray⟩, .string ⟨x.toArray⟩, .int .i64 z] (.bool true) :=
  ybm fun y => limited_any hz hx fun p hp => hT false false false false false false p hp _ (hG.ovr y).env
set_option maxHeartbeats 4000000 in
set_option maxRecDepth 100000 in
theorem treelaw_any {t : ya} {v h : Value} {how : List Int} {w : World} (htr : yg w t v) (hs : Sml t) (hG : Gl w) (hH : jk w h how) {pow : Int} (hp : -9223372036854775808 ≤ pow ∧ pow ≤ 9223372036854775807) :
    Calls Tryz.prog 5 #[v, h, .int .i64 pow] w fun e w' => e = .returned (.bool true) ∧ Below w.heap.size w w' := by
  have hz := fun o => yzl (htr.alc o)
  have hf := fun o z => yvq ((htr.alc o).ovr z) hs ((hG.alloc o).ovr z) ((hH.al o).ovr z)
  have hr := fun o z => yrh ((htr.alc o).ovr z) hs ((hG.alloc o).ovr z)
  have hn := fun hF o z => yrg ((htr.alc o).ovr z) hF ((hG.alloc o).ovr z) ((hH.al o).ovr z)
  have ht := fun (x : List UInt8) hT o z => yrc (x := x) ((htr.alc o).ovr z) hT
  have hc := fun (x : List UInt8) hl o z => asc_st x hl (ovr (w.alloc o) z)
  have hd := fun (x : List UInt8) hl (hT : yn1 t how false x) o z => limited_st hp hl hT ((hG.alloc o).ovr z)
  obtain ⟨kv, l, nm, n, f, ao, ln, cap, rfl⟩ := yek htr
  obtain ⟨hoa, hoc, rfl, hc1, hc2, -⟩ := hH
  unfold maxLen at hc2
  have a0 := fun z => zn w #[.int .i64 kv, .int .u8 l.toNat, .string ⟨nm.toArray⟩, .int .u64 n, .bool f, .slice ao ln cap] 28 0 _ rfl z
  have a1 := fun z => zn w #[.int .i64 kv, .int .u8 l.toNat, .string ⟨nm.toArray⟩, .int .u64 n, .bool f, .slice ao ln cap] 28 1 _ rfl z
  have a2 := fun z => zn w #[.int .i64 kv, .int .u8 l.toNat, .string ⟨nm.toArray⟩, .int .u64 n, .bool f, .slice ao ln cap] 28 2 _ rfl z
  have a3 := fun z => zn w #[.int .i64 kv, .int .u8 l.toNat, .string ⟨nm.toArray⟩, .int .u64 n, .bool f, .slice ao ln cap] 28 3 _ rfl z
  have a4 := fun z => zn w #[.int .i64 kv, .int .u8 l.toNat, .string ⟨nm.toArray⟩, .int .u64 n, .bool f, .slice ao ln cap] 28 4 _ rfl z
  have a5 := fun z => zn w #[.int .i64 kv, .int .u8 l.toNat, .string ⟨nm.toArray⟩, .int .u64 n, .bool f, .slice ao ln cap] 28 5 _ rfl z
  have b0 := fun z x => yf (zn w #[.int .i64 kv, .int .u8 l.toNat, .string ⟨nm.toArray⟩, .int .u64 n, .bool f, .slice ao ln cap] 28 0 _ rfl z) x
  have b1 := fun z x => yf (zn w #[.int .i64 kv, .int .u8 l.toNat, .string ⟨nm.toArray⟩, .int .u64 n, .bool f, .slice ao ln cap] 28 1 _ rfl z) x
  have b2 := fun z x => yf (zn w #[.int .i64 kv, .int .u8 l.toNat, .string ⟨nm.toArray⟩, .int .u64 n, .bool f, .slice ao ln cap] 28 2 _ rfl z) x
  have b3 := fun z x => yf (zn w #[.int .i64 kv, .int .u8 l.toNat, .string ⟨nm.toArray⟩, .int .u64 n, .bool f, .slice ao ln cap] 28 3 _ rfl z) x
  have b4 := fun z x => yf (zn w #[.int .i64 kv, .int .u8 l.toNat, .string ⟨nm.toArray⟩, .int .u64 n, .bool f, .slice ao ln cap] 28 4 _ rfl z) x
  have b5 := fun z x => yf (zn w #[.int .i64 kv, .int .u8 l.toNat, .string ⟨nm.toArray⟩, .int .u64 n, .bool f, .slice ao ln cap] 28 5 _ rfl z) x
  have HZ := Lib.hid hz; have HF := Lib.hid hf; have HR := Lib.hid hr; have HC := Lib.hid hc; have HN := Lib.hid hn; have HT := Lib.hid ht; have HD := Lib.hid hd
  clear hz hf hr hc hn ht hd htr hs hG
  by_cases hzb : zzB t = true
  · rw [hzb] at HZ
    by_cases hlen : how.length ≤ 2147483647
    · have q1 : decide ((2147483647 : Int) < (how.length : Int)) = false := decide_eq_false (by omega)
      by_cases hfb : yng t how = true
      · have hF := yyt hfb
        have hrb : ycw t = true := by unfold yng at hfb; rw [Bool.and_eq_true] at hfb; exact hfb.1
        obtain ⟨x, hx, hne, hT⟩ := ys5 hF false
        obtain ⟨hx1, hx2⟩ := ys6 hF hx
        rw [hfb] at HF
        rw [hrb] at HR
        have HN1 := Lib.hid (HN.out hF); have HT1 := Lib.hid (HT.out x hx1); have HC1 := Lib.hid (HC.out x hx2); have HD1 := Lib.hid (HD.out x hx2 hT)
        clear HN HT HC HD hF hx hT hx1 hx2 hfb hzb hrb
        generalize (wGo false how 24 t .zero).out = out at HN1 HD1
        by_cases hac : asc x = true
        · rw [hac] at HC1
          clear hac
          go_enter Tryz.func5, Tryz.ntmps5
          go_wp2_with fail
          refine (HZ.out _).at.mono ?_
          rintro e w1 ⟨rfl, z, rfl⟩
          go_wp2
          refine yao (by kernel_rfl) (by kernel_rfl) ?_
          repeat (go_big_quiet_step (first | exact HR.out _ z _ | exact HF.out _ z _ | exact HT1.out _ z _ | exact HC1.out _ z _ | exact HN1.out _ z _ | exact HD1.out _ z _))
          refine wpQuiet_nil ?_
          rintro _ ⟨y, rfl⟩
          go_wp2
          go_ret
          exact ⟨by simp, (ybx _ z).trans (vm (qp _ y) (ybx _ z).size)⟩
        · have hac' : asc x = false := by simpa using hac
          rw [hac'] at HC1
          clear hac hac'
          go_enter Tryz.func5, Tryz.ntmps5
          go_wp2_with fail
          refine (HZ.out _).at.mono ?_
          rintro e w1 ⟨rfl, z, rfl⟩
          go_wp2
          refine yao (by kernel_rfl) (by kernel_rfl) ?_
          repeat (go_big_quiet_step (first | exact HR.out _ z _ | exact HF.out _ z _ | exact HT1.out _ z _ | exact HC1.out _ z _))
          refine wpQuiet_nil ?_
          rintro _ ⟨y, rfl⟩
          go_wp2
          go_ret
          exact ⟨by simp, (ybx _ z).trans (vm (qp _ y) (ybx _ z).size)⟩
      · have hfb' : yng t how = false := by simpa using hfb
        rw [hfb'] at HF
        by_cases hrb : ycw t = true
        · rw [hrb] at HR
          clear HN HT HC HD
          go_enter Tryz.func5, Tryz.ntmps5
          go_wp2_with fail
          refine (HZ.out _).at.mono ?_
          rintro e w1 ⟨rfl, z, rfl⟩
          go_wp2
          refine yao (by kernel_rfl) (by kernel_rfl) ?_
          repeat (go_big_quiet_step (first | exact HR.out _ z _ | exact HF.out _ z _))
          refine wpQuiet_nil ?_
          rintro _ ⟨y, rfl⟩
          go_wp2
          go_ret
          exact ⟨by simp, (ybx _ z).trans (vm (qp _ y) (ybx _ z).size)⟩
        · have hrb' : ycw t = false := by simpa using hrb
          rw [hrb'] at HR
          clear HN HT HC HD
          go_enter Tryz.func5, Tryz.ntmps5
          go_wp2_with fail
          refine (HZ.out _).at.mono ?_
          rintro e w1 ⟨rfl, z, rfl⟩
          go_wp2
          refine yao (by kernel_rfl) (by kernel_rfl) ?_
          repeat (go_big_quiet_step (first | exact HR.out _ z _))
          refine wpQuiet_nil ?_
          rintro _ ⟨y, rfl⟩
          go_wp2
          go_ret
          exact ⟨by simp, (ybx _ z).trans (vm (qp _ y) (ybx _ z).size)⟩
    · have q1 : decide ((2147483647 : Int) < (how.length : Int)) = true := decide_eq_true (by omega)
      go_enter Tryz.func5, Tryz.ntmps5
      go_wp2_with fail
      refine (HZ.out _).at.mono ?_
      rintro e w1 ⟨rfl, z, rfl⟩
      go_wp2
      go_ret
      exact ⟨rfl, ybx _ z⟩
  · have hzb' : zzB t = false := by simpa using hzb
    rw [hzb'] at HZ
    go_enter Tryz.func5, Tryz.ntmps5
    go_wp2_with fail
    refine (HZ.out _).at.mono ?_
    rintro e w1 ⟨rfl, z, rfl⟩
    go_wp2
    go_ret
    exact ⟨rfl, ybx _ z⟩
end Go.Proofs.YtfckcdbpiepchaaGreatDoor
