/- The path of a crate behind a name is read, and not told. -/
import Derived.Test.YtfckcdbpiepchaaGreatDoorNs00
import Derived.Test.YtfckcdbpiepchaaGreatDoorNs01
import Derived.Test.YtfckcdbpiepchaaGreatDoorNs02
import Derived.Test.YtfckcdbpiepchaaGreatDoorNs03
import Derived.Test.YtfckcdbpiepchaaGreatDoorNs04
import Derived.Test.YtfckcdbpiepchaaGreatDoorNs05
import Derived.Test.YtfckcdbpiepchaaGreatDoorNs06
import Derived.Test.YtfckcdbpiepchaaGreatDoorNs07
import Derived.Test.YtfckcdbpiepchaaGreatDoorNs08
import Derived.Test.YtfckcdbpiepchaaGreatDoorNs09
import Derived.Test.YtfckcdbpiepchaaGreatDoorNs10
import Derived.Test.YtfckcdbpiepchaaGreatDoorNs11
import Derived.Test.YtfckcdbpiepchaaGreatDoorNs12
import Derived.Test.YtfckcdbpiepchaaGreatDoorNs13
import Derived.Test.YtfckcdbpiepchaaGreatDoorNs14
import Derived.Test.YtfckcdbpiepchaaGreatDoorNs15
import Derived.Test.YtfckcdbpiepchaaGreatDoorNs16
import Derived.Test.YtfckcdbpiepchaaGreatDoorNs17
import Derived.Test.YtfckcdbpiepchaaGreatDoorNs18
import Derived.Test.YtfckcdbpiepchaaGreatDoorNs19
import Derived.Test.YtfckcdbpiepchaaGreatDoorNs20
import Derived.Test.YtfckcdbpiepchaaGreatDoorNs21
import Derived.Test.YtfckcdbpiepchaaGreatDoorNs22
import Derived.Test.YtfckcdbpiepchaaGreatDoorNs23
import Derived.Test.YtfckcdbpiepchaaGreatDoorNs24
import Derived.Test.YtfckcdbpiepchaaGreatDoorNs25
import Derived.Test.YtfckcdbpiepchaaGreatDoorNs26
import Derived.Test.YtfckcdbpiepchaaGreatDoorNs27
import Derived.Test.YtfckcdbpiepchaaGreatDoorNs28
import Derived.Test.YtfckcdbpiepchaaGreatDoorNs29
import Derived.Test.YtfckcdbpiepchaaGreatDoorNs30
import Derived.Test.YtfckcdbpiepchaaGreatDoorNs31
import Derived.Test.YtfckcdbpiepchaaGreatDoorNs32
import Derived.Test.YtfckcdbpiepchaaGreatDoorNs33
import Derived.Test.YtfckcdbpiepchaaGreatDoorNs34
import Derived.Test.YtfckcdbpiepchaaGreatDoorNs35
import Derived.Test.YtfckcdbpiepchaaGreatDoorNs36
import Derived.Test.YtfckcdbpiepchaaGreatDoorNs37
import Derived.Test.YtfckcdbpiepchaaGreatDoorNs38
import Derived.Test.YtfckcdbpiepchaaGreatDoorXt
namespace Go.Proofs.YtfckcdbpiepchaaGreatDoor
set_option linter.all false
open Go.RowKit

/-- the same text behind something, with the same binders -/
structure Shf (P : List UInt8) (w v : WS) : Prop where
  o : v.out = P ++ w.out
  e : v.empty = w.empty
  bd : v.bound = w.bound
  bs : v.bounds = w.bounds.map fun x => ⟨P.length + x.at_, x.all⟩
theorem shf_put {P : List UInt8} {w v : WS} (h : Shf P w v) (t : List UInt8) : Shf P (w.put t) (v.put t) := by
  cases t with
  | nil => exact h
  | cons c r => exact ⟨by unfold WS.put; dsimp only; rw [h.o, h.e, List.append_assoc], rfl, h.bd, h.bs⟩
theorem shf_nm {P : List UInt8} {w v : WS} (h : Shf P w v) (t : List UInt8) : Shf P (w.nm t) (v.nm t) := by
  unfold WS.nm
  split
  · have := shf_put h [48]
    exact ⟨this.o, rfl, this.bd, this.bs⟩
  · exact shf_put h _
theorem shf_bind {P : List UInt8} {w v : WS} (h : Shf P w v) (n : Nat) : Shf P (w.bind n) (v.bind n) := by
  unfold WS.bind
  have := shf_put h (vc n)
  dsimp only
  split
  · exact this
  · refine ⟨this.o, this.e, by show _ + n = _ + n; rw [this.bd], ?_⟩
    show (v.put (vc n)).bounds ++ [_] = List.map _ ((w.put (vc n)).bounds ++ [_])
    rw [List.map_append, this.bs, this.o, this.bd, List.length_append]; rfl
theorem shf_ite {P : List UInt8} {a b a' b' : WS} {c : Prop} [Decidable c] (h : Shf P a a') (k : Shf P b b') : Shf P (if c then a else b) (if c then a' else b') := by
  split
  · exact h
  · exact k
theorem shf_fold {P : List UInt8} {f g : WS → ya → WS} (h : ∀ t w v, Shf P w v → Shf P (f w t) (g v t)) : ∀ (l : List ya) (w v : WS), Shf P w v → Shf P (l.foldl f w) (l.foldl g v)
  | [], _, _, k => k
  | t :: l, w, v, k => shf_fold h l _ _ (h t w v k)
theorem shf_arg {P : List UInt8} {f g : ya → WS → WS} (h : ∀ t w v, Shf P w v → Shf P (f t w) (g t v)) (t : ya) {w v : WS} (k : Shf P w v) : Shf P (vb f t w) (vb g t v) := by
  unfold vb
  exact shf_ite (shf_put k _) (shf_ite (h _ _ _ (shf_put k _)) (h _ _ _ k))
theorem shf_bd {P : List UInt8} {f g f2 g2 : ya → WS → WS} (h : ∀ t w v, Shf P w v → Shf P (f t w) (g t v)) (h2 : ∀ t w v, Shf P w v → Shf P (f2 t w) (g2 t v)) (t : ya) {w v : WS} (k : Shf P w v) : Shf P (wBd f f2 t w) (wBd g g2 t v) :=
  shf_fold (f := ya6 f2) (g := ya6 g2) (fun _ _ _ k => h2 _ _ _ (shf_put k _)) _ _ _ (h _ _ _ k)
theorem shf_sub {P : List UInt8} {w v : WS} (h : Shf P w v) (n : Nat) : Shf P ({ w with bound := w.bound - n } : WS) ({ v with bound := v.bound - n } : WS) :=
  ⟨h.o, h.e, by show _ - n = _ - n; rw [h.bd], h.bs⟩
theorem shf_write {P : List UInt8} {pc qc : Pc} (h : ∀ j t w v, Shf P w v → Shf P (pc j t w) (qc j t v)) (t : ya) {w v : WS} (k : Shf P w v) : Shf P (yc pc t w) (yc qc t v) := by
  have hf : ∀ (l : List ya) (w v : WS), Shf P w v → Shf P (l.foldl (fun w t => pc 0 t w) w) (l.foldl (fun w t => qc 0 t w) v) := shf_fold fun t w v k => h 0 t w v k
  unfold yc
  refine shf_ite (shf_nm (shf_put k _) _) ?_
  refine shf_ite (hf _ _ _ (shf_put k _)) ?_
  refine shf_ite (hf _ _ _ (shf_put k _)) ?_
  refine shf_ite (hf _ _ _ (shf_put k _)) ?_
  refine shf_ite (shf_nm (shf_put (h _ _ _ _ (shf_put k _)) _) _) ?_
  refine shf_ite (shf_put (shf_fold (fun t w v k => shf_arg (h 0) t k) _ _ _ (h _ _ _ _ (shf_put k _))) _) ?_
  refine shf_ite (shf_put k _) ?_
  have h2 : Shf P (if 0 < t.num ∧ (t.kind = 11 ∨ t.kind = 12) then (w.put [zk t.kind]).put (76 :: jd t.num) else w.put [zk t.kind]) (if 0 < t.num ∧ (t.kind = 11 ∨ t.kind = 12) then (v.put [zk t.kind]).put (76 :: jd t.num) else v.put [zk t.kind]) :=
    shf_ite (shf_put (shf_put k _) _) (shf_put k _)
  refine shf_ite (shf_ite (shf_put (hf _ _ _ h2) _) (hf _ _ _ h2)) ?_
  have h3 : Shf P (if t.flag = true then (w.put [t.letter]).put [110] else w.put [t.letter]) (if t.flag = true then (v.put [t.letter]).put [110] else v.put [t.letter]) := shf_ite (shf_put (shf_put k _) _) (shf_put k _)
  refine shf_ite (shf_put h3 _) ?_
  refine shf_ite (shf_put k _) ?_
  have h1 : Shf P ((w.put [70]).bind t.num) ((v.put [70]).bind t.num) := shf_bind (shf_put k _) _
  have h4 : Shf P (if t.flag = true then ((w.put [70]).bind t.num).put [85] else (w.put [70]).bind t.num) (if t.flag = true then ((v.put [70]).bind t.num).put [85] else (v.put [70]).bind t.num) := shf_ite (shf_put h1 _) h1
  have h5 : ∀ w2 v2, Shf P w2 v2 → Shf P (if t.name = [] then w2 else w2.put (75 :: qs t.name)) (if t.name = [] then v2 else v2.put (75 :: qs t.name)) := fun w2 v2 h => shf_ite h (shf_put h _)
  have h6 := h 0 (t.kids.getLastD .zero) _ _ (shf_put (hf t.kids.dropLast _ _ (h5 _ _ h4)) [69])
  refine shf_ite (shf_sub h6 _) ?_
  have h7 := shf_fold (P := P) (f := fun w t => wBd (pc 1) (pc 2) t w) (g := fun w t => wBd (qc 1) (qc 2) t w) (fun t w v k => shf_bd (h 1) (h 2) t k) t.kids.dropLast _ _ (shf_bind (shf_put k [68]) t.num)
  exact shf_arg (h 0) _ (shf_put (shf_sub h7 t.num) _)
theorem shf_go {P : List UInt8} : ∀ d t w v, Shf P w v → Shf P (wGo false [] d t w) (wPl d t v) := by
  intro d
  induction d using Nat.strongRecOn with
  | _ d ih =>
    intro t w v k
    cases d with
    | zero => rw [wPl, wGo]; exact k
    | succ d =>
      rw [wPl, wGo, if_neg (by decide)]
      dsimp only
      rw [findB_nil]
      dsimp only
      have := shf_write (P := P) (pc := fun j t w => wGo false [] (d - j) t w) (qc := fun j t w => wPl (d - j) t w) (fun j t w v k => ih (d - j) (by omega) t w v k) t (w := { w with used := w.used }) (v := v) ⟨k.o, k.e, k.bd, k.bs⟩
      exact ⟨this.o, this.e, this.bd, this.bs⟩
/-- what stands behind a piece that ends in an empty name -/
def usOf (W : WS) : List UInt8 := if W.empty = true then [95] else []
theorem pathB_no {c : UInt8} (h : yb4 c = true) : c ≠ 95 ∧ kt c = false := by
  unfold yb4 at h
  simp only [Bool.or_eq_true, beq_iff_eq] at h
  rcases h with ((((h | h) | h) | h) | h) | h <;> (rw [h]; exact ⟨by decide, by decide⟩)
/-- a path without references at the end of a text spells its tree -/
theorem crate_sp (hP : xm) {t : ya} (hR : Rt .path 24 0 t) {Wc : WS} (hWc : Wc = wGo false [] 24 t .zero) (hr : ycg Wc) (P : List UInt8) {s : List UInt8} (hs : s = P ++ Wc.out ++ usOf Wc) :
    Sp s 0 true s.length .path 24 0 0 P.length t s.length := by
  obtain ⟨w0, hw0⟩ : ∃ w0 : WS, w0 = { WS.zero with out := P } := ⟨_, rfl⟩
  have hs0 : Shf P .zero w0 := by rw [hw0]; exact ⟨by simp [WS.zero], rfl, rfl, rfl⟩
  have hs1 := shf_go 24 t .zero w0 hs0
  obtain ⟨W, hW⟩ : ∃ W, W = wPl 24 t w0 := ⟨_, rfl⟩
  rw [← hW, ← hWc] at hs1
  have hsW : W.out <+: s := ⟨_, by rw [hs, hs1.o]⟩
  have hM := ywh hP hsW (pl := true) (fun h => by cases h) [] (fun h => by cases h) (fun h => by cases h) hR (by omega)
  obtain ⟨e', he, hG⟩ := hM
  obtain rfl : e' = 23 := by omega
  have hWe : yc (fun j t w => wGo true [] (23 - j) t w) t w0 = W := by
    rw [hW]
    show _ = wPl (23 + 1) t w0
    rw [wPl]
    congr 1
    funext j t w
    exact ygv [] _ t w
  have hlen : s.length = W.out.length + (usOf Wc).length := by rw [hs, hs1.o, List.length_append]
  have hus : W.empty = true → s.getD W.out.length 0 = 95 ∧ s.length = W.out.length + 1 := fun h => by
    rw [hs1.e] at h
    have hu : usOf Wc = [95] := by unfold usOf; rw [if_pos h]
    refine ⟨?_, by rw [hlen, hu]; rfl⟩
    rw [hs, hu, ← hs1.o]
    exact ybu (x := []) List.prefix_rfl
  have hr2 := hG.res 0 w0 ⟨by rw [hw0]; rfl, fun i hi => by rw [hw0] at hi; exact absurd hi (Nat.not_lt_zero _)⟩ (by rw [hw0]; rfl) (by rw [hWe]; exact .refl _) (by rw [hWe]; intro h; rw [(hus h).1]; decide)
  rw [hWe] at hr2
  have hw0o : w0.out.length = P.length := by rw [hw0]
  have h := hr2.sp 0 s.length ⟨Nat.le_refl _, by omega, fun bd hbd _ _ => by
    rw [hs1.bs] at hbd
    obtain ⟨x, hx, rfl⟩ := List.mem_map.1 hbd
    have h1 := (hr x hx).1
    have h2 : W.out.length = P.length + Wc.out.length := by rw [hs1.o, List.length_append]
    show P.length + x.at_ + x.all + 0 < s.length
    omega, by omega⟩
  have hk0 := (hG.beg w0).k0 hsW (by rw [hWe]; exact .refl _) s.length
  have hk1 : y8 s s.length W = s.length := by
    unfold y8
    by_cases h : W.empty = true
    · obtain ⟨h1, h2⟩ := hus h
      rw [if_pos ⟨h, by omega, h1⟩]; omega
    · rw [if_neg (fun h1 => h h1.1), hlen]
      rw [hs1.e] at h
      unfold usOf
      rw [if_neg h]; rfl
  rw [hk0, hk1, hw0o] at h
  exact h
/-- a name, and the path of a crate behind it -/
theorem two_read {t c : ya} {how : List Int} (hR : Rt .path 24 0 t) (hw : t.wt ≤ 300) (hRc : Rt .path 24 0 c) (hwc : c.wt ≤ 300) {W Wc : WS} (hW : W = wGo false how 24 t .zero) (hr : ycg W) (hWc : Wc = wGo false [] 24 c .zero) (hrc : ycg Wc) {s : List UInt8} (hs : s = W.out ++ Wc.out ++ usOf Wc) (hl : s.length ≤ 4294967296) (ng : Bool) :
    ∃ x, qq ng (.path true) 0 t x ∧ gr .path (s.getD 0 0) = true ∧ s ≠ [] ∧ ∀ mx, ∃ N st g N2 st2 g2, jg N (.path true) (rs1 s ng mx) = some (some (st, g)) ∧ st.Wg ∧ st.str ≠ [] ∧
      jg N2 (.path false) { st with skip := true } = some (some (st2, g2)) ∧ st2.str = [] ∧ st2.max = mx ∧ st2.out ≠ [] ∧ yde mx st2.out = yde mx x := by
  have hc := crate_sp yiw hRc hWc hrc W.out hs
  obtain ⟨p1, p2⟩ := pathB_no (ydh hc rfl rfl)
  obtain ⟨x, hx, hh, hne, hk⟩ := ypq hR hw hW hr (s := s) ⟨_, by rw [hs, List.append_assoc]⟩ (fun _ => p2) hl ng
  have hke : y8 s s.length W = W.out.length := by unfold y8; rw [if_neg (fun h => p1 h.2.2)]
  obtain ⟨y, hy, hk2⟩ := (yxm (ng := ng) hc (Nat.le_refl _)).1 false
  have hlt := (qm hc (Nat.le_refl _)).1
  refine ⟨x, hx, hh, hne, fun mx => ?_⟩
  obtain ⟨N, st, g, r1, r2, r3⟩ := hk mx
  obtain ⟨c1, c2, c3, c4⟩ := yww r2 (yoc hx)
  rw [hke] at r3
  have hso : st.out.length ≤ 0 + (2000 * t.wt - 100) := r2.ln
  obtain ⟨st2, g2, q1, q2, q3⟩ := hk2 _ { st with skip := true } (Nat.le_refl _) ⟨r3.str, r3.off, r3.orig, r3.life, r3.pl, r3.ll, r3.b20, fun _ => rfl⟩ c4 (by show st.out.length + _ ≤ _; omega)
  have ho : st2.out = st.out := q2.o1 rfl
  have hm : st2.max = st.max := q2.mx
  refine ⟨_, st, g, _, st2, g2, r1, ⟨?_, ?_, ?_, ?_, ?_⟩, ?_, q1, ?_, ?_, ?_, ?_⟩
  · rw [r3.off]; omega
  · rw [r3.off, r3.str, r3.orig, jw (Nat.le_refl _)]; omega
  · rw [r3.orig]; exact hl
  · rw [r3.life]; omega
  · rw [r3.life]; omega
  · rw [r3.str, yc8 (Nat.le_refl _) hlt]; exact List.cons_ne_nil _ _
  · rw [q3.str]; exact yh8 (Nat.le_refl _)
  · rw [hm]; exact c3
  · rw [ho]; exact c2
  · rw [ho]; exact c1
/-- a text that is ydg, with every option but NoTemplateParams, which is given -/
def ToldL (l : List UInt8) (ng : Bool) (x : List UInt8) : Prop :=
  ∀ (b0 b2 b3 b4 b5 b6 : Bool) (p : Nat), p ≤ 30 → ∀ w, Env w.heap.size w → Calls Tryz.prog 17 #[.string ⟨(95 :: 82 :: l).toArray⟩, ydj b0 ng b2 b3 b4 b5 b6 p] w fun e w' =>
    e = .returned (.tuple #[.string ⟨(yde (yij p) x).toArray⟩, .int .i64 0]) ∧ Below w.heap.size w w'
/-- a piece as it stands in a name -/
def pieceL (t : ya) (how : List Int) : List UInt8 := (wGo false how 24 t .zero).out ++ usOf (wGo false how 24 t .zero)
theorem behind_told {t c : ya} {how : List Int} (hF : Fit t how) (hC : Fit c []) (ng : Bool) : ∃ x, qq ng (.path true) 0 t x ∧ ToldL ((wGo false how 24 t .zero).out ++ pieceL c []) ng x := by
  obtain ⟨W, hW⟩ : ∃ W, W = wGo false how 24 t .zero := ⟨_, rfl⟩
  obtain ⟨Wc, hWc⟩ : ∃ Wc, Wc = wGo false [] 24 c .zero := ⟨_, rfl⟩
  have ho1 := (ykf (pl := false) (how := how) hF.okP).o
  have ho2 := (ykf (pl := false) (how := []) hC.okP).o
  have hp1 := yrs (pl := false) (how := how) hF.okP
  have hp2 := yrs (pl := false) (how := []) hC.okP
  have hr1 := hF.room
  have hr2 := hC.room
  obtain ⟨s, hs⟩ : ∃ s, s = W.out ++ Wc.out ++ usOf Wc := ⟨_, rfl⟩
  have hsl : (wGo false how 24 t .zero).out ++ pieceL c [] = s := by unfold pieceL; rw [← hW, ← hWc, hs, List.append_assoc]
  rw [← hW] at ho1 hp1 hr1
  rw [← hWc] at ho2 hp2 hr2
  have hul : (usOf Wc).length ≤ 1 := by unfold usOf; split <;> simp
  have hl : s.length ≤ 4294967000 := by rw [hs, List.length_append, List.length_append]; omega
  obtain ⟨x, hx, hh, hne, hk⟩ := two_read hF.rt hF.wt hC.rt hC.wt hW hr1 hWc hr2 hs (by omega) ng
  rw [hsl]
  have hd : ∀ c ∈ s, c ≠ 46 := by
    rintro d hd rfl
    rw [hs] at hd
    rcases List.mem_append.1 hd with hd | hd
    · rcases List.mem_append.1 hd with hd | hd
      · exact absurd (List.all_eq_true.1 hp1 46 hd) (by decide)
      · exact absurd (List.all_eq_true.1 hp2 46 hd) (by decide)
    · unfold usOf at hd
      split at hd
      · exact absurd (List.mem_singleton.1 hd) (by decide)
      · cases hd
  refine ⟨x, hx, fun b0 b2 b3 b4 b5 b6 p hp w hE => ?_⟩
  obtain ⟨N, st, g, N2, st2, g2, r1, r2, r3, q1, q2, q3, q4, q5⟩ := hk (yij p)
  obtain ⟨e, r, her⟩ : ∃ e r, s = e :: r := by
    cases h : s with
    | nil => exact absurd h hne
    | cons e r => exact ⟨e, r, rfl⟩
  have := yq7 (w := w) b0 ng b2 b3 b4 b5 b6 hp (z := st2) hl hd q2 q3 q4 fun w' p' hb hp' hA => by
    have hE' := hE.up hb hp'
    refine ykw (y := some st) hA (show (rs1 s ng (yij p)).str = e :: r from her) (yr3 (by rw [her] at hh; exact hh)) ?_ (fun y' h hn => ?_) (fun y' h _ w2 hA2 hU2 => ?_) (fun h => by cases h)
    · exact (ye2 N (.path true) _ _ r1 (yxo (by omega) ng _) w' p' hA hE').mono fun e w' h => h.1
    · cases h; exact absurd hn r3
    · cases h
      exact (ye2 N2 (.path false) _ _ q1 (r2.same rfl rfl rfl rfl) w2 p' hA2 (hE'.upd hA hU2)).mono fun e w' h => h.1
  rw [q5] at this
  exact this
end Go.Proofs.YtfckcdbpiepchaaGreatDoor
