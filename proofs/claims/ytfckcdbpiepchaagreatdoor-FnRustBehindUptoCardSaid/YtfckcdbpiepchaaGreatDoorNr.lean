/- The walk of a piece that stands in a name; the law FnRustBehind. -/
import Derived.Test.YtfckcdbpiepchaaGreatDoorNs00
import Derived.Test.YtfckcdbpiepchaaGreatDoorNs01
import Derived.Test.YtfckcdbpiepchaaGreatDoorNs02
import Derived.Test.YtfckcdbpiepchaaGreatDoorNs03
import Derived.Test.YtfckcdbpiepchaaGreatDoorNs04
import Derived.Test.YtfckcdbpiepchaaGreatDoorNs05
import Derived.Test.YtfckcdbpiepchaaGreatDoorNs06
import Derived.Test.YtfckcdbpiepchaaGreatDoorNs07
import Derived.Test.YtfckcdbpiepchaaGreatDoorNs08
import Derived.Test.YtfckcdbpiepchaaGreatDoorNs09
import Derived.Test.YtfckcdbpiepchaaGreatDoorNs10
import Derived.Test.YtfckcdbpiepchaaGreatDoorNs11
import Derived.Test.YtfckcdbpiepchaaGreatDoorNs12
import Derived.Test.YtfckcdbpiepchaaGreatDoorNs13
import Derived.Test.YtfckcdbpiepchaaGreatDoorNs14
import Derived.Test.YtfckcdbpiepchaaGreatDoorNs15
import Derived.Test.YtfckcdbpiepchaaGreatDoorNs16
import Derived.Test.YtfckcdbpiepchaaGreatDoorNs17
import Derived.Test.YtfckcdbpiepchaaGreatDoorNs18
import Derived.Test.YtfckcdbpiepchaaGreatDoorNs19
import Derived.Test.YtfckcdbpiepchaaGreatDoorNs20
import Derived.Test.YtfckcdbpiepchaaGreatDoorNs21
import Derived.Test.YtfckcdbpiepchaaGreatDoorNs22
import Derived.Test.YtfckcdbpiepchaaGreatDoorNs23
import Derived.Test.YtfckcdbpiepchaaGreatDoorNs24
import Derived.Test.YtfckcdbpiepchaaGreatDoorNs25
import Derived.Test.YtfckcdbpiepchaaGreatDoorNs26
import Derived.Test.YtfckcdbpiepchaaGreatDoorNs27
import Derived.Test.YtfckcdbpiepchaaGreatDoorNs28
import Derived.Test.YtfckcdbpiepchaaGreatDoorNs29
import Derived.Test.YtfckcdbpiepchaaGreatDoorNs30
import Derived.Test.YtfckcdbpiepchaaGreatDoorNs31
import Derived.Test.YtfckcdbpiepchaaGreatDoorNs32
import Derived.Test.YtfckcdbpiepchaaGreatDoorNs33
import Derived.Test.YtfckcdbpiepchaaGreatDoorNs34
import Derived.Test.YtfckcdbpiepchaaGreatDoorNs35
import Derived.Test.YtfckcdbpiepchaaGreatDoorNs36
import Derived.Test.YtfckcdbpiepchaaGreatDoorNs37
import Derived.Test.YtfckcdbpiepchaaGreatDoorNs38
import Derived.Test.YtfckcdbpiepchaaGreatDoorXt
import Derived.Test.YtfckcdbpiepchaaGreatDoorNp
namespace Go.Proofs.YtfckcdbpiepchaaGreatDoor
set_option linter.all false
open Go.RowKit

theorem stays2 {W : World} {F : FuncId} {args : Array Value} {r : Value} (h : ∀ x, Stays (ovr W x) F args r) (z : Xt) : Calls Tryz.prog F args (ovr W z) fun e w' => e = .returned r ∧ ∃ x, w' = ovr W x :=
  (h z).at.mono fun e w' ⟨h1, y, h2⟩ => ⟨h1, _, h2.trans (yd _ _ _)⟩
set_option maxHeartbeats 4000000 in
set_option maxRecDepth 100000 in
theorem rpiece_any {t : ya} {v : Value} {w : World} (ho : okP 24 t) (htr : yg w t v) (hV : yb1 w) (hT : yec w) :
    Calls Tryz.prog 29 #[v, .slice none 0 0] w fun e w' => e = .returned (.string ⟨(pieceL t []).toArray⟩) ∧ Below w.heap.size w w' := by
  obtain ⟨p, hp⟩ : ∃ p, p = w.heap.size + 1 := ⟨_, rfl⟩
  obtain ⟨i0, hi, hz0, hz1, hz2⟩ := info_parts Tryz.infoByte
  obtain ⟨h, hh⟩ : ∃ h : Value, h = .slice none 0 0 := ⟨_, rfl⟩
  have hH : jk w h [] := ⟨none, 0, hh, Nat.le_refl _, by unfold maxLen; omega, fun h => absurd rfl h, fun g o h => by cases h⟩
  have E : WE w w.heap.size p h false [] := ⟨rfl, hV, hT, fun _ => hH⟩
  have hF := ykf (pl := false) (how := []) ho
  have hk1 := yg5 ho
  have hz0 : WS.zero.bound + 20 * 24 ≤ 1000 := by show 0 + 20 * 24 ≤ 1000; omega
  have hnb := fun w' h1 => yj4 (w := w') (B := w.heap.size) (p := p) (h := h) (pl := false) h1 (by omega)
  obtain ⟨S, hS⟩ : ∃ S, S = wGo false [] 24 t .zero := ⟨_, rfl⟩
  have hwr : ∀ w', Below w.heap.size w w' → WAt w' w.heap.size p h false .zero → Calls Tryz.prog 40 #[.pointer (some ⟨p, 0, none⟩), v] w' fun e w'' => kx w.heap.size p h false w' S e w'' := fun w' hb' hW' => by rw [hS]; exact yix E 24 t v w' .zero ho htr hb' hW' hF hz0
  have hol := hF.o
  have hpl : pieceL t [] = S.out ++ usOf S := by rw [hS]; rfl
  rw [hpl]
  rw [← hS] at hol
  obtain ⟨k, c, nm, n, f, kids⟩ := t
  obtain ⟨ao, cap, rfl, hK, hn, hnm⟩ := yo htr hk1
  subst hh
  have HWR := Lib.hid hwr; have HP := Lib.hid hp; have HNB := Lib.hid hnb
  clear hwr htr hK E ho hk1 hV hT hS hz0 hnb hF hpl hH
  go_enter Tryz.func29, Tryz.ntmps29
  go_wp2_with fail
  rw [← HP.out]
  refine (HWR.out _ ?hb ?hw).mono ?_
  case hb => exact ((Below.refl _ w).alloc (Nat.le_refl _) _).alloc (by simp) _
  case hw => exact HNB.out _ (by rw [HP.out]; simpa using ym (w.alloc _) _)
  rintro e w1 ⟨rfl, W1, F1⟩
  obtain ⟨so, sx, sm, sb, sk, hP1⟩ := W1
  have c6 := hP1.cell 6 (.bool S.empty) rfl
  have c0 := hP1.cell 0 so rfl
  have f0 := hP1.free 0
  rw [HP.out] at c0 c6 f0
  have HF := Lib.hid (((Fr.alloc w.heap.size w _).trans (.alloc _ _ _)).trans F1)
  have hsz : w.heap.size ≤ w1.heap.size := Nat.le_trans hP1.pB (Nat.le_of_lt hP1.lt)
  cases he : S.empty with
  | false =>
    rw [he] at c6
    have hu : usOf S = [] := by unfold usOf; rw [he]; rfl
    have HU := Lib.hid hu
    have kc := yoh hP1.o
    obtain ⟨a0, cp, rfl⟩ := jl hP1.o
    clear F1 hP1 hu he
    go_wp2
    go_ret
    exact ⟨by rw [HU.out, List.append_nil]; rfl, HF.out.below (Nat.le_refl _)⟩
  | true =>
    rw [he] at c6
    have hu : usOf S = [95] := by unfold usOf; rw [he]; rfl
    have HU := Lib.hid hu
    obtain ⟨a0, cp, hso⟩ := jl hP1.o
    have HP1 := Lib.hid hP1
    have HSO := Lib.hid hso
    rw [hso] at c0
    clear F1 hP1 hu he
    subst hso
    go_wp2_with (at_builtin; refine wpList_append_own _ rfl _ _ 22 rfl w.heap.size 5 i0 (.int .u8 0) 1 1 Tryz.underlying22 hi hz0 hz1 hz2 rfl (by decide) _ _ _ rfl (HP1.out.o.alloc _) ⟨w1.heap.size, 0, none⟩ 1 1 [.int .u8 95] rfl rfl ?c1 ?c2 ?c3 ?c4 ?c5 ?_)
    case c1 => exact cell_one_new _ _ _
    case c2 => simp [Value.oneCell']
    case c3 => unfold maxLen; omega
    case c4 => omega
    case c5 => simp; omega
    intro v' w2 hown hgrow _
    have hown1 : w2.ownsRow w.heap.size 5 1 v' (S.out.length + 1) (je (S.out ++ [95])) := by rw [ybw]; exact hown
    obtain ⟨hb1, hW1, hF1⟩ := (HP1.out.below ((Below.refl _ w1).alloc (Nat.le_refl _) _)).app_o (l := S.out ++ [95]) (by simp) hgrow hown1
    obtain ⟨a1, c1, rfl⟩ := jl hown1
    rw [HP.out] at hb1 hW1 hF1
    have e0 : w2.cell? ⟨w.heap.size + 1, 0, none⟩ = some (.slice a0 S.out.length cp) := zm hb1 rfl
    have g0 := zz hb1 0
    have d0 : (w2.setCell ⟨w.heap.size + 1, 0, none⟩ (.slice a1 (S.out.length + 1) c1)).cell? ⟨w.heap.size + 1, 0, none⟩ = some (.slice a1 (S.out.length + 1) c1) := zm (by rw [zb hb1 0]) rfl
    obtain ⟨sx2, sm2, sb2, sk2, hP2⟩ := hW1.out_is d0
    have kc := yoh hP2.o
    simp only [List.length_append, List.length_cons, List.length_nil, Nat.zero_add] at kc
    have HF2 := Lib.hid ((HF.out.trans (Fr.alloc _ w1 _)).trans hF1)
    clear hown hgrow hown1 hb1 hW1 hF1 hP2 c0 c6 f0
    go_wp2
    go_ret
    exact ⟨by rw [HU.out]; rfl, HF2.out.below (Nat.le_refl _)⟩
theorem rpiece_st {t : ya} {v : Value} {w : World} (htr : yg w t v) (hF : Fit t []) (hG : Gl w) : Stays w 29 #[v, .slice none 0 0] (.string ⟨(pieceL t []).toArray⟩) :=
  ybm fun x => rpiece_any hF.okP (htr.ovr x) (hG.ovr x).vt (hG.ovr x).pt
theorem saysL_st {w : World} {l x : List UInt8} (hT : ToldL l false x) (hG : Gl w) : Stays w 18 #[.string ⟨(95 :: 82 :: l).toArray⟩, .string ⟨x.toArray⟩] (.bool true) :=
  ybm fun y => yzb fun w' hb => by
    obtain ⟨z, rfl⟩ := ybj hb
    exact hT false false false false false false 0 (by omega) _ ((hG.ovr y).ovr z).env
theorem ints_nil (w : World) : jk w (.slice none 0 0) [] := ⟨none, 0, rfl, Nat.le_refl _, by unfold maxLen; omega, fun h => absurd rfl h, fun g o h => by cases h⟩
/-- what a tree in a box reads, in two boxes one behind the other -/
theorem first_cell (w : World) (C : Array Value) (t : TypeId) (o : Obj) (j : Nat) (v : Value) (h : C[j]? = some v) (z : Xt) : (ovr ((w.alloc (.cells C t)).alloc o) z).cell? ⟨w.heap.size, j, none⟩ = some v := by
  rw [yb (w.alloc (.cells C t)) o, yd]; exact zn w C t j v h _
theorem second_cell (w : World) (C : Array Value) (t : TypeId) (o : Obj) (j : Nat) (v : Value) (h : C[j]? = some v) (z : Xt) : (ovr ((w.alloc o).alloc (.cells C t)) z).cell? ⟨w.heap.size + 1, j, none⟩ = some v := by
  have := zn (w.alloc o) C t j v h z
  rwa [show (w.alloc o).heap.size = w.heap.size + 1 by simp] at this
set_option maxHeartbeats 8000000 in
set_option maxRecDepth 100000 in
theorem behind_any {t c : ya} {v u h : Value} {how : List Int} {w : World} (htr : yg w t v) (hs : Sml t) (hcr : yg w c u) (hsc : Sml c) (hG : Gl w) (hH : jk w h how) :
    Calls Tryz.prog 7 #[v, u, h] w fun e w' => e = .returned (.bool true) ∧ Below w.heap.size w w' := by
  have hz := fun o o2 => yzl ((htr.alc o).alc o2)
  have hz2 := fun o o2 z => yzl (((hcr.alc o).alc o2).ovr z)
  have hf := fun o o2 z => yvq (((htr.alc o).alc o2).ovr z) hs (((hG.alloc o).alloc o2).ovr z) (((hH.al o).al o2).ovr z)
  have hf2 := fun o o2 z => yvq (((hcr.alc o).alc o2).ovr z) hsc (((hG.alloc o).alloc o2).ovr z) (ints_nil (ovr ((w.alloc o).alloc o2) z))
  have hn := fun hF o o2 z => yrg (((htr.alc o).alc o2).ovr z) hF (((hG.alloc o).alloc o2).ovr z) (((hH.al o).al o2).ovr z)
  have hp := fun hF o o2 z => rpiece_st (((hcr.alc o).alc o2).ovr z) hF (((hG.alloc o).alloc o2).ovr z)
  have ht := fun (x : List UInt8) hT o o2 z => yrc (x := x) (((htr.alc o).alc o2).ovr z) hT
  have hd := fun (l x : List UInt8) (hT : ToldL l false x) o o2 z => saysL_st hT (((hG.alloc o).alloc o2).ovr z)
  obtain ⟨kv, l, nm, n, f, ao, ln, cap, rfl⟩ := yek htr
  obtain ⟨kv2, l2, nm2, n2, f2, ao2, ln2, cap2, rfl⟩ := yek hcr
  obtain ⟨hoa, hoc, rfl, hc1, hc2, -⟩ := hH
  unfold maxLen at hc2
  have a0 := fun z => first_cell w #[.int .i64 kv, .int .u8 l.toNat, .string ⟨nm.toArray⟩, .int .u64 n, .bool f, .slice ao ln cap] 28 (.cells #[.int .i64 kv2, .int .u8 l2.toNat, .string ⟨nm2.toArray⟩, .int .u64 n2, .bool f2, .slice ao2 ln2 cap2] 28) 0 _ rfl z
  have a1 := fun z => first_cell w #[.int .i64 kv, .int .u8 l.toNat, .string ⟨nm.toArray⟩, .int .u64 n, .bool f, .slice ao ln cap] 28 (.cells #[.int .i64 kv2, .int .u8 l2.toNat, .string ⟨nm2.toArray⟩, .int .u64 n2, .bool f2, .slice ao2 ln2 cap2] 28) 1 _ rfl z
  have a2 := fun z => first_cell w #[.int .i64 kv, .int .u8 l.toNat, .string ⟨nm.toArray⟩, .int .u64 n, .bool f, .slice ao ln cap] 28 (.cells #[.int .i64 kv2, .int .u8 l2.toNat, .string ⟨nm2.toArray⟩, .int .u64 n2, .bool f2, .slice ao2 ln2 cap2] 28) 2 _ rfl z
  have a3 := fun z => first_cell w #[.int .i64 kv, .int .u8 l.toNat, .string ⟨nm.toArray⟩, .int .u64 n, .bool f, .slice ao ln cap] 28 (.cells #[.int .i64 kv2, .int .u8 l2.toNat, .string ⟨nm2.toArray⟩, .int .u64 n2, .bool f2, .slice ao2 ln2 cap2] 28) 3 _ rfl z
  have a4 := fun z => first_cell w #[.int .i64 kv, .int .u8 l.toNat, .string ⟨nm.toArray⟩, .int .u64 n, .bool f, .slice ao ln cap] 28 (.cells #[.int .i64 kv2, .int .u8 l2.toNat, .string ⟨nm2.toArray⟩, .int .u64 n2, .bool f2, .slice ao2 ln2 cap2] 28) 4 _ rfl z
  have a5 := fun z => first_cell w #[.int .i64 kv, .int .u8 l.toNat, .string ⟨nm.toArray⟩, .int .u64 n, .bool f, .slice ao ln cap] 28 (.cells #[.int .i64 kv2, .int .u8 l2.toNat, .string ⟨nm2.toArray⟩, .int .u64 n2, .bool f2, .slice ao2 ln2 cap2] 28) 5 _ rfl z
  have b0 := fun z => second_cell w #[.int .i64 kv2, .int .u8 l2.toNat, .string ⟨nm2.toArray⟩, .int .u64 n2, .bool f2, .slice ao2 ln2 cap2] 28 (.cells #[.int .i64 kv, .int .u8 l.toNat, .string ⟨nm.toArray⟩, .int .u64 n, .bool f, .slice ao ln cap] 28) 0 _ rfl z
  have b1 := fun z => second_cell w #[.int .i64 kv2, .int .u8 l2.toNat, .string ⟨nm2.toArray⟩, .int .u64 n2, .bool f2, .slice ao2 ln2 cap2] 28 (.cells #[.int .i64 kv, .int .u8 l.toNat, .string ⟨nm.toArray⟩, .int .u64 n, .bool f, .slice ao ln cap] 28) 1 _ rfl z
  have b2 := fun z => second_cell w #[.int .i64 kv2, .int .u8 l2.toNat, .string ⟨nm2.toArray⟩, .int .u64 n2, .bool f2, .slice ao2 ln2 cap2] 28 (.cells #[.int .i64 kv, .int .u8 l.toNat, .string ⟨nm.toArray⟩, .int .u64 n, .bool f, .slice ao ln cap] 28) 2 _ rfl z
  have b3 := fun z => second_cell w #[.int .i64 kv2, .int .u8 l2.toNat, .string ⟨nm2.toArray⟩, .int .u64 n2, .bool f2, .slice ao2 ln2 cap2] 28 (.cells #[.int .i64 kv, .int .u8 l.toNat, .string ⟨nm.toArray⟩, .int .u64 n, .bool f, .slice ao ln cap] 28) 3 _ rfl z
  have b4 := fun z => second_cell w #[.int .i64 kv2, .int .u8 l2.toNat, .string ⟨nm2.toArray⟩, .int .u64 n2, .bool f2, .slice ao2 ln2 cap2] 28 (.cells #[.int .i64 kv, .int .u8 l.toNat, .string ⟨nm.toArray⟩, .int .u64 n, .bool f, .slice ao ln cap] 28) 4 _ rfl z
  have b5 := fun z => second_cell w #[.int .i64 kv2, .int .u8 l2.toNat, .string ⟨nm2.toArray⟩, .int .u64 n2, .bool f2, .slice ao2 ln2 cap2] 28 (.cells #[.int .i64 kv, .int .u8 l.toNat, .string ⟨nm.toArray⟩, .int .u64 n, .bool f, .slice ao ln cap] 28) 5 _ rfl z
  have x0 := fun z y => yf (first_cell w #[.int .i64 kv, .int .u8 l.toNat, .string ⟨nm.toArray⟩, .int .u64 n, .bool f, .slice ao ln cap] 28 (.cells #[.int .i64 kv2, .int .u8 l2.toNat, .string ⟨nm2.toArray⟩, .int .u64 n2, .bool f2, .slice ao2 ln2 cap2] 28) 0 _ rfl z) y
  have x1 := fun z y => yf (first_cell w #[.int .i64 kv, .int .u8 l.toNat, .string ⟨nm.toArray⟩, .int .u64 n, .bool f, .slice ao ln cap] 28 (.cells #[.int .i64 kv2, .int .u8 l2.toNat, .string ⟨nm2.toArray⟩, .int .u64 n2, .bool f2, .slice ao2 ln2 cap2] 28) 1 _ rfl z) y
  have x2 := fun z y => yf (first_cell w #[.int .i64 kv, .int .u8 l.toNat, .string ⟨nm.toArray⟩, .int .u64 n, .bool f, .slice ao ln cap] 28 (.cells #[.int .i64 kv2, .int .u8 l2.toNat, .string ⟨nm2.toArray⟩, .int .u64 n2, .bool f2, .slice ao2 ln2 cap2] 28) 2 _ rfl z) y
  have x3 := fun z y => yf (first_cell w #[.int .i64 kv, .int .u8 l.toNat, .string ⟨nm.toArray⟩, .int .u64 n, .bool f, .slice ao ln cap] 28 (.cells #[.int .i64 kv2, .int .u8 l2.toNat, .string ⟨nm2.toArray⟩, .int .u64 n2, .bool f2, .slice ao2 ln2 cap2] 28) 3 _ rfl z) y
  have x4 := fun z y => yf (first_cell w #[.int .i64 kv, .int .u8 l.toNat, .string ⟨nm.toArray⟩, .int .u64 n, .bool f, .slice ao ln cap] 28 (.cells #[.int .i64 kv2, .int .u8 l2.toNat, .string ⟨nm2.toArray⟩, .int .u64 n2, .bool f2, .slice ao2 ln2 cap2] 28) 4 _ rfl z) y
  have x5 := fun z y => yf (first_cell w #[.int .i64 kv, .int .u8 l.toNat, .string ⟨nm.toArray⟩, .int .u64 n, .bool f, .slice ao ln cap] 28 (.cells #[.int .i64 kv2, .int .u8 l2.toNat, .string ⟨nm2.toArray⟩, .int .u64 n2, .bool f2, .slice ao2 ln2 cap2] 28) 5 _ rfl z) y
  have y0 := fun z y => yf (second_cell w #[.int .i64 kv2, .int .u8 l2.toNat, .string ⟨nm2.toArray⟩, .int .u64 n2, .bool f2, .slice ao2 ln2 cap2] 28 (.cells #[.int .i64 kv, .int .u8 l.toNat, .string ⟨nm.toArray⟩, .int .u64 n, .bool f, .slice ao ln cap] 28) 0 _ rfl z) y
  have y1 := fun z y => yf (second_cell w #[.int .i64 kv2, .int .u8 l2.toNat, .string ⟨nm2.toArray⟩, .int .u64 n2, .bool f2, .slice ao2 ln2 cap2] 28 (.cells #[.int .i64 kv, .int .u8 l.toNat, .string ⟨nm.toArray⟩, .int .u64 n, .bool f, .slice ao ln cap] 28) 1 _ rfl z) y
  have y2 := fun z y => yf (second_cell w #[.int .i64 kv2, .int .u8 l2.toNat, .string ⟨nm2.toArray⟩, .int .u64 n2, .bool f2, .slice ao2 ln2 cap2] 28 (.cells #[.int .i64 kv, .int .u8 l.toNat, .string ⟨nm.toArray⟩, .int .u64 n, .bool f, .slice ao ln cap] 28) 2 _ rfl z) y
  have y3 := fun z y => yf (second_cell w #[.int .i64 kv2, .int .u8 l2.toNat, .string ⟨nm2.toArray⟩, .int .u64 n2, .bool f2, .slice ao2 ln2 cap2] 28 (.cells #[.int .i64 kv, .int .u8 l.toNat, .string ⟨nm.toArray⟩, .int .u64 n, .bool f, .slice ao ln cap] 28) 3 _ rfl z) y
  have y4 := fun z y => yf (second_cell w #[.int .i64 kv2, .int .u8 l2.toNat, .string ⟨nm2.toArray⟩, .int .u64 n2, .bool f2, .slice ao2 ln2 cap2] 28 (.cells #[.int .i64 kv, .int .u8 l.toNat, .string ⟨nm.toArray⟩, .int .u64 n, .bool f, .slice ao ln cap] 28) 4 _ rfl z) y
  have y5 := fun z y => yf (second_cell w #[.int .i64 kv2, .int .u8 l2.toNat, .string ⟨nm2.toArray⟩, .int .u64 n2, .bool f2, .slice ao2 ln2 cap2] 28 (.cells #[.int .i64 kv, .int .u8 l.toNat, .string ⟨nm.toArray⟩, .int .u64 n, .bool f, .slice ao ln cap] 28) 5 _ rfl z) y
  have HZ := Lib.hid hz; have HZ2 := Lib.hid hz2; have HF := Lib.hid hf; have HF2 := Lib.hid hf2; have HN := Lib.hid hn; have HP := Lib.hid hp; have HT := Lib.hid ht; have HD := Lib.hid hd
  clear hz hz2 hf hf2 hn hp ht hd htr hcr hs hsc hG
  by_cases hzb : zzB t = true
  · rw [hzb] at HZ
    by_cases hzc : zzB c = true
    · rw [hzc] at HZ2
      by_cases hlen : how.length ≤ 2147483647
      · have q1 : decide ((2147483647 : Int) < (how.length : Int)) = false := decide_eq_false (by omega)
        by_cases hfb : yng t how = true
        · by_cases hfc : yng c [] = true
          · have hF := yyt hfb
            have hC := yyt hfc
            obtain ⟨x, hx, hT⟩ := behind_told hF hC false
            obtain ⟨hx1, hx2⟩ := ys6 hF hx
            rw [hfb] at HF
            rw [hfc] at HF2
            have HN1 := Lib.hid (HN.out hF); have HP1 := Lib.hid (HP.out hC); have HT1 := Lib.hid (HT.out x hx1); have HD1 := Lib.hid (HD.out _ x hT)
            have hol := (ykf (pl := false) (how := how) hF.okP).o
            have hop : (pieceL c []).length ≤ 1000000000 := by
              have h1 := (ykf (pl := false) (how := []) hC.okP).o
              have h2 : (usOf (wGo false [] 24 c .zero)).length ≤ 1 := by unfold usOf; split <;> simp
              unfold pieceL
              rw [List.length_append]; omega
            clear HN HP HT HD hF hC hx hT hx1 hfb hzb hfc hzc
            generalize (wGo false how 24 t .zero).out = out at HN1 HD1 hol
            generalize pieceL c [] = pc at HP1 HD1 hop
            go_enter Tryz.func7, Tryz.ntmps7
            go_wp2_with fail
            refine ((HZ.out _ _).at).mono ?_
            rintro e w1 ⟨rfl, z, rfl⟩
            go_wp2_with fail
            refine (stays2 (fun x => HZ2.out _ _ x) z).mono ?_
            rintro e w1 ⟨rfl, z, rfl⟩
            go_wp2_with fail
            refine (stays2 (fun x => HF.out _ _ x) z).mono ?_
            rintro e w1 ⟨rfl, z, rfl⟩
            go_wp2_with fail
            refine (stays2 (fun x => HF2.out _ _ x) z).mono ?_
            rintro e w1 ⟨rfl, z, rfl⟩
            go_wp2
            refine yao (by kernel_rfl) (by kernel_rfl) ?_
            repeat (go_big_quiet_step (first | exact HN1.out _ _ z _ | exact HP1.out _ _ z _ | exact HT1.out _ _ z _ | exact HD1.out _ _ z _))
            refine wpQuiet_nil ?_
            rintro _ ⟨y, rfl⟩
            go_wp2
            go_ret
            exact ⟨by simp, ((Below.refl _ w).alloc (Nat.le_refl _) _).trans (vm ((ybx _ z).trans (vm (qp _ y) (ybx _ z).size)) (by simp))⟩
          · have hfc' : yng c [] = false := by simpa using hfc
            rw [hfb] at HF
            rw [hfc'] at HF2
            clear HN HP HT HD
            go_enter Tryz.func7, Tryz.ntmps7
            go_wp2_with fail
            refine ((HZ.out _ _).at).mono ?_
            rintro e w1 ⟨rfl, z, rfl⟩
            go_wp2_with fail
            refine (stays2 (fun x => HZ2.out _ _ x) z).mono ?_
            rintro e w1 ⟨rfl, z, rfl⟩
            go_wp2_with fail
            refine (stays2 (fun x => HF.out _ _ x) z).mono ?_
            rintro e w1 ⟨rfl, z, rfl⟩
            go_wp2_with fail
            refine (stays2 (fun x => HF2.out _ _ x) z).mono ?_
            rintro e w1 ⟨rfl, z, rfl⟩
            go_wp2
            go_ret
            exact ⟨rfl, ((Below.refl _ w).alloc (Nat.le_refl _) _).trans (vm (ybx _ z) (by simp))⟩
        · have hfb' : yng t how = false := by simpa using hfb
          rw [hfb'] at HF
          clear HN HP HT HD HF2
          go_enter Tryz.func7, Tryz.ntmps7
          go_wp2_with fail
          refine ((HZ.out _ _).at).mono ?_
          rintro e w1 ⟨rfl, z, rfl⟩
          go_wp2_with fail
          refine (stays2 (fun x => HZ2.out _ _ x) z).mono ?_
          rintro e w1 ⟨rfl, z, rfl⟩
          go_wp2_with fail
          refine (stays2 (fun x => HF.out _ _ x) z).mono ?_
          rintro e w1 ⟨rfl, z, rfl⟩
          go_wp2
          go_ret
          exact ⟨rfl, ((Below.refl _ w).alloc (Nat.le_refl _) _).trans (vm (ybx _ z) (by simp))⟩
      · have q1 : decide ((2147483647 : Int) < (how.length : Int)) = true := decide_eq_true (by omega)
        clear HN HP HT HD HF2 HF
        go_enter Tryz.func7, Tryz.ntmps7
        go_wp2_with fail
        refine ((HZ.out _ _).at).mono ?_
        rintro e w1 ⟨rfl, z, rfl⟩
        go_wp2_with fail
        refine (stays2 (fun x => HZ2.out _ _ x) z).mono ?_
        rintro e w1 ⟨rfl, z, rfl⟩
        go_wp2
        go_ret
        exact ⟨rfl, ((Below.refl _ w).alloc (Nat.le_refl _) _).trans (vm (ybx _ z) (by simp))⟩
    · have hzc' : zzB c = false := by simpa using hzc
      rw [hzc'] at HZ2
      clear HN HP HT HD HF2 HF
      go_enter Tryz.func7, Tryz.ntmps7
      go_wp2_with fail
      refine ((HZ.out _ _).at).mono ?_
      rintro e w1 ⟨rfl, z, rfl⟩
      go_wp2_with fail
      refine (stays2 (fun x => HZ2.out _ _ x) z).mono ?_
      rintro e w1 ⟨rfl, z, rfl⟩
      go_wp2
      go_ret
      exact ⟨rfl, ((Below.refl _ w).alloc (Nat.le_refl _) _).trans (vm (ybx _ z) (by simp))⟩
  · have hzb' : zzB t = false := by simpa using hzb
    rw [hzb'] at HZ
    clear HN HP HT HD HF2 HF HZ2
    go_enter Tryz.func7, Tryz.ntmps7
    go_wp2_with fail
    refine ((HZ.out _ _).at).mono ?_
    rintro e w1 ⟨rfl, z, rfl⟩
    go_wp2
    go_ret
    exact ⟨rfl, ((Below.refl _ w).alloc (Nat.le_refl _) _).trans (vm (ybx _ z) (by simp))⟩
end Go.Proofs.YtfckcdbpiepchaaGreatDoor
