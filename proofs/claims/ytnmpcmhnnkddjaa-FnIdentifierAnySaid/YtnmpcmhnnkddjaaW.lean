/- Walks of the run of one part of the reader, of the door to Punycode, and of its statement. -/
import Derived.Test.YtnmpcmhnnkddjaaV
import Derived.Test.YtnmpcmhnnkddjaaE
import Derived.Test.YtnmpcmhnnkddjaaD
import Derived.Deep.RegionHeld3
namespace Go.Proofs.Ytnmpcmhnnkddjaa
open Go.RowKit

/-- all blocks stand as they stood, but those named -/
structure Keep (S : List Nat) (w w' : World) : Prop where
  os : w'.os = w.os
  tape : w'.tape = w.tape
  output : w'.output = w.output
  size : w.heap.size ≤ w'.heap.size
  block : ∀ k, k < w.heap.size → k ∉ S → w'.heap[k]? = w.heap[k]?
theorem Keep.refl (S : List Nat) (w : World) : Keep S w w := ⟨rfl, rfl, rfl, Nat.le_refl _, fun _ _ _ => rfl⟩
theorem Keep.trans {S : List Nat} {a b c : World} (h : Keep S a b) (k : Keep S b c) : Keep S a c :=
  ⟨k.os.trans h.os, k.tape.trans h.tape, k.output.trans h.output, Nat.le_trans h.size k.size, fun i h1 h2 => (k.block i (Nat.lt_of_lt_of_le h1 h.size) h2).trans (h.block i h1 h2)⟩
theorem Keep.of_below {S : List Nat} {w w' : World} (h : Below w.heap.size w w') : Keep S w w' := ⟨h.os, h.tape, h.output, h.size, fun k hk _ => h.block k hk⟩
theorem Keep.set {S : List Nat} {a w : World} (h : Keep S a w) (p : Addr) (v : Value) (hp : p.block ∈ S ∨ a.heap.size ≤ p.block) : Keep S a (w.setCell p v) :=
  ⟨h.os, h.tape, h.output, by simp [World.setCell]; exact h.size, fun k h1 h2 => by
    rw [Below.heap_setCell _ _ _ _ (fun e => by rcases hp with hp | hp; (· exact h2 (e ▸ hp)); (· omega))]; exact h.block k h1 h2⟩
theorem Keep.alloc {S : List Nat} {a w : World} (h : Keep S a w) (o : Obj) : Keep S a (w.alloc o) :=
  ⟨h.os, h.tape, h.output, by simp; have := h.size; omega, fun k h1 h2 => by rw [Below.heap_alloc _ _ _ (Nat.lt_of_lt_of_le h1 h.size)]; exact h.block k h1 h2⟩
theorem Keep.drew {S : List Nat} {a w : World} (h : Keep S a w) : Keep S a w.drew := ⟨h.os, h.tape, h.output, h.size, h.block⟩
theorem Keep.cell {S : List Nat} {w w' : World} (h : Keep S w w') {p : Addr} {v : Value} (hc : w.cell? p = some v) (hp : p.block ∉ S) : w'.cell? p = some v := by
  have hl : p.block < w.heap.size := by
    unfold World.cell? at hc
    cases hb : w.heap[p.block]? with
    | none => rw [hb] at hc; cases hc
    | some o => exact (Array.getElem?_eq_some_iff.1 hb).1
  rw [World.cell?_of_block (w := w) (h.block p.block hl hp)]; exact hc
theorem Keep.free {S : List Nat} {w w' : World} (h : Keep S w w') {p : Addr} (hl : p.block < w.heap.size) (hp : p.block ∉ S) : w'.frozen? p = w.frozen? p :=
  World.frozen?_of_block (w := w) (h.block p.block hl hp)
theorem cell_lt {w : World} {p : Addr} {v : Value} (hc : w.cell? p = some v) : p.block < w.heap.size := by
  unfold World.cell? at hc
  cases hb : w.heap[p.block]? with
  | none => rw [hb] at hc; cases hc
  | some o => exact (Array.getElem?_eq_some_iff.1 hb).1
/-- the state at the beginning of a text -/
def rs0 (l : List UInt8) : RS := { orig := l, str := l, off := 0, out := [], skip := false, life := 0, last := 0, nogen := false, max := 0 }
theorem frozen_set (w : World) (a : Addr) (v : Value) (b : Addr) : (w.setCell a v).frozen? b = w.frozen? b := by simp [go_sem]
theorem RAt.other {w : World} {p oa : Nat} {st : RS} (h : RAt w p st) (he : st.out = []) (hp : p ≠ oa) (v : Value) : RAt (w.setCell ⟨oa, 0, none⟩ v) p st := by
  obtain ⟨addr, sl, h1, h2, hn, h3⟩ := h
  obtain rfl := hn he
  exact ⟨addr, _, by rw [Below.heap_setCell _ _ _ _ hp]; exact h1, h2, hn, by rw [he]; exact ⟨rfl, .inl ⟨rfl, rfl⟩⟩⟩
theorem puny_closure {w : World} {p sa oa : Nat} {st : RS} {s t : List UInt8} {cv : Value} (hR : RAt w p st) (hs : w.cell? ⟨sa, 0, none⟩ = some (.string ⟨s.toArray⟩)) (ho : w.cell? ⟨oa, 0, none⟩ = some cv) (hof : w.frozen? ⟨oa, 0, none⟩ = false)
    (hp : p ≠ oa) (he : st.out = []) (hl : s.length ≤ 2147483648) (hpl : s.all isPlain = true) (ht : Hid (told s true = some t)) :
    Calls Try.prog 31 #[.pointer (some ⟨p, 0, none⟩), .pointer (some ⟨sa, 0, none⟩), .pointer (some ⟨oa, 0, none⟩)] w fun e w' =>
      e = .returned (.tuple #[]) ∧ RAt w' p st ∧ w'.cell? ⟨oa, 0, none⟩ = some (.string ⟨t.toArray⟩) ∧ w'.frozen? ⟨oa, 0, none⟩ = false ∧ Keep [oa] w w' := by
  obtain ⟨h1, h2, out, h3, rfl⟩ := told_bytes ht.out
  go_enter Try.func31, Try.ntmps31
  go_wp2_with (go_at_call 32; refine (expand_any hR hl hpl h1 h2 h3).mono ?_; rintro e w1 ⟨rfl, hb⟩; have hlt := cell_lt ho; have ho1 : w1.cell? ⟨oa, 0, none⟩ = some cv := (by rw [hb.cell (p := ⟨oa, 0, none⟩) hlt]; exact ho); have hf1 : w1.frozen? ⟨oa, 0, none⟩ = false := (by rw [hb.frozen (p := ⟨oa, 0, none⟩) hlt]; exact hof); have HR := Lib.hid (hR.below hb); have HB := Lib.hid hb; clear hb hs ho hof hR)
  go_end0
  exact ⟨rfl, HR.out.other he hp _, by rw [u8_val]; exact World.cell?_setCell_same _ _ _ ho1, by rw [frozen_set]; exact hf1, (Keep.of_below HB.out).set _ _ (.inl (by simp))⟩
theorem Keep.below {S : List Nat} {B : Nat} {a w : World} (h : Keep S a w) (hS : ∀ k ∈ S, B ≤ k) (hB : B ≤ a.heap.size) : Below B a w :=
  ⟨h.os, h.tape, h.output, h.size, fun k hk => h.block k (by omega) (fun hm => by have := hS k hm; omega)⟩
theorem catch_idle (a b c : Value) (w : World) :
    CallsD Try.prog 33 #[a, b, c] .returning w fun e u' w' => e = .returned (.tuple #[]) ∧ u' = .returning ∧ w' = w := by
  refine callsD_of_wpS Try.func33 rfl fun c₀ cs hu => ?_
  apply wpS_seq
  apply wpS_region
  simp [wpOpsS, go_sem, recoverD, hu, Try.ntmps33, Exit.thenS]
  apply wpS_seq
  apply wpS_region
  simp [wpOpsS, go_sem, Exit.thenS, Act.eval, Array.replicate]
  refine wpS_cond (t := false) (by simp [Act.eval, Array.replicate]) ?_
  simp only [Bool.false_eq_true, if_false]
  refine wpS_of_wp (wp_skip ?_)
  cases c₀
  simp_all [bodyPostS, results, Try.results33]
theorem fresh_state (w : World) (o1 o2 o3 : Obj) : RAt ((((w.alloc o1).alloc o2).alloc o3).alloc (.cells (rcells (rs0 []) none (.slice none 0 0)).toArray 70)) (w.heap.size + 3) (rs0 []) := by
  refine ⟨none, .slice none 0 0, ?_, .inl rfl, fun _ => rfl, ⟨rfl, .inl ⟨rfl, rfl⟩⟩⟩
  have h := heap_new (((w.alloc o1).alloc o2).alloc o3) (.cells (rcells (rs0 []) none (.slice none 0 0)).toArray 70)
  rwa [show (((w.alloc o1).alloc o2).alloc o3).heap.size = w.heap.size + 3 by simp] at h
theorem keep4 (w : World) (S : List Nat) (o1 o2 o3 o4 : Obj) : Keep S w ((((w.alloc o1).alloc o2).alloc o3).alloc o4) := ((((Keep.refl S w).alloc _).alloc _).alloc _).alloc _
theorem zzRun_puny {w : World} {sa oa : Nat} {s t : List UInt8} {cv : Value} (hs : w.cell? ⟨sa, 0, none⟩ = some (.string ⟨s.toArray⟩)) (ho : w.cell? ⟨oa, 0, none⟩ = some cv) (hof : w.frozen? ⟨oa, 0, none⟩ = false)
    (hso : sa ≠ oa) (hl : s.length ≤ 2147483648) (hpl : s.all isPlain = true) (ht : Hid (told s true = some t)) :
    Calls Try.prog 26 #[.string ⟨#[]⟩, .func (.func 31) #[] #[.pointer (some ⟨sa, 0, none⟩), .pointer (some ⟨oa, 0, none⟩)]] w fun e w' =>
      e = .returned (.tuple #[.string ⟨#[]⟩, .string ⟨#[]⟩, .nilIface]) ∧ w'.cell? ⟨oa, 0, none⟩ = some (.string ⟨t.toArray⟩) ∧ w'.frozen? ⟨oa, 0, none⟩ = false ∧ Keep [oa] w w' := by
  have hmf : ∀ (fn : Fn) (first cap : Array Value) (w : World), (Instr.makeFunc fn first cap).run Try.prog w = .ok (.func fn first cap) w := fun _ _ _ _ => rfl
  have hsl := cell_lt hs
  have hol := cell_lt ho
  have hp : w.heap.size + 3 ≠ oa := by simp only at hol; omega
  go_enter_defers Try.func26, Try.ntmps26
  go_wp2_with fail
  refine Calls.mono (puny_closure (cv := cv) (p := w.heap.size + 3) (st := rs0 []) ?_ ?_ ?_ ?_ hp rfl hl hpl ht) ?_
  · exact fresh_state _ _ _ _
  · exact (keep4 _ [] _ _ _ _).cell hs (by simp)
  · exact (keep4 _ [] _ _ _ _).cell ho (by simp)
  · exact ((keep4 _ [] _ _ _ _).free hol (by simp)).trans hof
  rintro e w1 ⟨rfl, hR, hc, hf, hk⟩
  have hst : w1.cell? ⟨w.heap.size + 1 + 1 + 1, 1, none⟩ = some (.string ⟨#[]⟩) := hR.str
  have hn : ∀ k, w.heap.size ≤ k → k ∉ [oa] := fun k h => by simp; omega
  have hc0 : w1.cell? ⟨w.heap.size, 0, none⟩ = some (.string ⟨#[]⟩) := hk.cell (by go_simp) (hn w.heap.size (Nat.le_refl _))
  have hc1 : w1.cell? ⟨w.heap.size + 1, 0, none⟩ = some (.string ⟨#[]⟩) := hk.cell (by simp [go_sem]) (hn (w.heap.size + 1) (by omega))
  have hc2 : w1.cell? ⟨w.heap.size + 1 + 1, 0, none⟩ = some .nilIface := hk.cell (by simp [go_sem]) (hn (w.heap.size + 1 + 1) (by omega))
  have hf0 : w1.frozen? ⟨w.heap.size, 0, none⟩ = false := (hk.free (by simp <;> omega) (hn w.heap.size (Nat.le_refl _))).trans (by simp [go_sem])
  have hf1 : w1.frozen? ⟨w.heap.size + 1, 0, none⟩ = false := (hk.free (by simp <;> omega) (hn (w.heap.size + 1) (by omega))).trans (by simp [go_sem])
  have hf2 : w1.frozen? ⟨w.heap.size + 1 + 1, 0, none⟩ = false := (hk.free (by simp) (hn (w.heap.size + 1 + 1) (by omega))).trans (by simp [go_sem])
  have HKw := Lib.hid (Keep.trans (keep4 w [oa] _ _ _ _) hk)
  clear hk
  go_wp2
  refine wp_region_noPanic ?_
  go_region_with (go_at_call 34; refine (bstring_empty (w := w1.drew) (p := w.heap.size + 3) (st := rs0 []) hR.drew rfl).mono ?_; rintro e w2 ⟨rfl, rfl⟩)
  all_goals (refine NoPanic.normal ?_; go_wp2)
  all_goals (refine leaves_cons (f := 33) (args := #[.pointer (some ⟨w.heap.size, 0, none⟩), .pointer (some ⟨w.heap.size + 1, 0, none⟩), .pointer (some ⟨w.heap.size + 1 + 1, 0, none⟩)]) (by simp) (by simp [go_sem]) ?_)
  all_goals (refine (catch_idle _ _ _ _).mono ?_; rintro e u' w'' ⟨rfl, rfl, rfl⟩)
  all_goals (simp [Leaves, settle, results, Try.results26, go_sem, hc0, hc1, hc2])
  all_goals (refine ⟨hc, hf, ?_⟩)
  all_goals (repeat' first | exact HKw.out | refine Keep.drew ?_ | refine Keep.set ?_ _ _ (.inr (by simp <;> omega)))
theorem zzPuny_told {w : World} {s t : List UInt8} (hl : s.length ≤ 2147483648) (hpl : s.all isPlain = true) (ht : Hid (told s true = some t)) :
    Calls Try.prog 24 #[.string ⟨s.toArray⟩] w fun e w' => e = .returned (.tuple #[.string ⟨t.toArray⟩, .nilIface]) ∧ Below w.heap.size w w' := by
  have hmf : ∀ (fn : Fn) (first cap : Array Value) (w : World), (Instr.makeFunc fn first cap).run Try.prog w = .ok (.func fn first cap) w := fun _ _ _ _ => rfl
  go_enter Try.func24, Try.ntmps24
  go_wp2_with fail
  refine Calls.mono (zzRun_puny (s := s) (t := t) (cv := .string ⟨#[]⟩) ?_ ?_ ?_ ?_ hl hpl ht) ?_
  · go_simp
  · go_simp
  · go_simp
  · simp
  rintro e w1 ⟨rfl, hc, hf, hk⟩
  have hb : Below w.heap.size w w1 := ((((Below.refl w.heap.size w).alloc (Nat.le_refl _) _).alloc (by simp) _).trans (hk.below (by simp) (by simp; omega)))
  have HB := Lib.hid hb
  clear hb hk
  go_wp2
  simp [bodyPost, results, Try.results24, go_sem, hc]
  exact HB.out.setCell (by simp) _
theorem punycode_told {w : World} {s t : List UInt8} (hl : s.length ≤ 2147483648) (hpl : s.all isPlain = true) (ht : Hid (told s true = some t)) :
    Calls Try.prog 15 #[.string ⟨s.toArray⟩] w fun e w' => e = .returned (.tuple #[.string ⟨t.toArray⟩, .bool true]) ∧ Below w.heap.size w w' := by
  go_enter Try.func15, Try.ntmps15
  go_wp2_with (go_at_call 24; refine (zzPuny_told hl hpl ht).mono ?_; rintro e w1 ⟨rfl, hb⟩; have HB := Lib.hid hb; clear hb)
  go_ret2
  exact ⟨rfl, HB.out⟩
theorem doorPuny_told {w : World} {s t : List UInt8} (hl : s.length ≤ 2147483648) (hpl : s.all isPlain = true) (ht : Hid (told s true = some t)) :
    Calls Try.prog 7 #[.string ⟨s.toArray⟩, .string ⟨t.toArray⟩] w fun e w' => e = .returned (.bool true) ∧ Below w.heap.size w w' := by
  go_enter Try.func7, Try.ntmps7
  go_wp2_with (go_at_call 15; refine (punycode_told hl hpl ht).mono ?_; rintro e w1 ⟨rfl, hb⟩; have HB := Lib.hid hb; clear hb)
  go_ret
  exact ⟨by simp, HB.out⟩
/-- the letters of a word, a mark of what lies between, and the word that they stand for -/
theorem told_goedel : told [103, 100, 101, 108, 95, 53, 113, 97] true = some [103, 195, 182, 100, 101, 108] := by decide +kernel
theorem told_plain {l t : List UInt8} {p : Bool} (h : told l p = some t) : l.all isPlain = true := by
  unfold told at h
  by_cases h1 : l.all isPlain = true
  · exact h1
  · simp [h1] at h
theorem fnPunycodeTold_any {a0 a1 : Option Addr} {len0 cap0 len1 cap1 : Nat} (w : World) (h0 : Slb w a0 len0 cap0) (h1 : Slb w a1 len1 cap1) :
    Calls Try.prog 3 #[.slice a0 len0 cap0, .slice a1 len1 cap1] w fun e w' => e = .returned (.bool true) ∧ Below w.heap.size w w' := by
  have H0 := Lib.hid h0
  have H1 := Lib.hid h1
  clear h0 h1
  go_enter Try.func3, Try.ntmps3
  go_wp2_with (go_at_call 5; refine (idPuny_any w H0.out H1.out).mono ?_; rintro e w1 ⟨⟨l, rfl, hl⟩, hb⟩; have HB := Lib.hid hb; have HL := Lib.hid hl; clear hb hl)
  · go_ret; exact ⟨rfl, Below.refl _ _⟩
  · refine (IdTold_any l true w1 (by have := HL.out; omega)).mono ?_
    rintro e w2 ⟨hT, hb2⟩
    have HB2 := Lib.hid (HB.out.trans (hb2.mono HB.out.size))
    clear hb2
    cases ht : told l true with
    | none =>
      rw [ht] at hT
      obtain ⟨y, rfl⟩ := hT
      clear ht
      go_wp2_with (go_at_call 7; refine (doorPuny_told (by simp) (by decide) (Lib.hid told_goedel)).mono ?_; rintro e w3 ⟨rfl, hb⟩; have HB3 := Lib.hid hb; clear hb)
      go_ret
      exact ⟨by simp, HB2.out.trans (HB3.out.mono HB2.out.size)⟩
    | some t =>
      rw [ht] at hT
      obtain rfl := hT
      have HT := Lib.hid ht
      clear ht
      go_wp2_with fail
      refine (doorPuny_told (by have := HL.out; omega) (told_plain HT.out) HT).mono ?_
      rintro e w3 ⟨rfl, hb⟩
      have HB3 := Lib.hid hb
      clear hb
      go_wp2_with fail
      refine (doorPuny_told (by simp) (by decide) (Lib.hid told_goedel)).mono ?_
      rintro e w4 ⟨rfl, hb⟩
      have HB4 := Lib.hid hb
      clear hb
      go_wp2
      go_ret
      have h3 := HB2.out.trans (HB3.out.mono HB2.out.size)
      exact ⟨by simp, h3.trans (HB4.out.mono h3.size)⟩
  · go_ret; exact ⟨rfl, Below.refl _ _⟩
end Go.Proofs.Ytnmpcmhnnkddjaa
