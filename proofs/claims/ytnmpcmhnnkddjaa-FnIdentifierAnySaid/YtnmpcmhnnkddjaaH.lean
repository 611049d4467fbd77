/- Walks of the door to identifiers, and of its statement. -/
import Derived.Test.YtnmpcmhnnkddjaaG
import Derived.Test.YtnmpcmhnnkddjaaW
import Derived.BigQuiet
namespace Go.Proofs.Ytnmpcmhnnkddjaa
open Go.RowKit

/-- the reader's own panic, as a value -/
def dErr (m : ByteArray) (o : Int) : Value := .iface 64 (.agg #[.string m, .int .i64 o])
theorem catch_panic {a0 a1 a2 : Nat} {v0 v1 v2 : Value} (m : ByteArray) (o : Int) (w : World) (h01 : a0 ≠ a1) (h02 : a0 ≠ a2) (h12 : a1 ≠ a2)
    (hc0 : w.cell? ⟨a0, 0, none⟩ = some v0) (hc1 : w.cell? ⟨a1, 0, none⟩ = some v1) (hc2 : w.cell? ⟨a2, 0, none⟩ = some v2)
    (hf0 : w.frozen? ⟨a0, 0, none⟩ = false) (hf1 : w.frozen? ⟨a1, 0, none⟩ = false) (hf2 : w.frozen? ⟨a2, 0, none⟩ = false) :
    CallsD Try.prog 33 #[.pointer (some ⟨a0, 0, none⟩), .pointer (some ⟨a1, 0, none⟩), .pointer (some ⟨a2, 0, none⟩)] (.panicking [{ v := .iface 64 (.agg #[.string m, .int .i64 o]), recovered := false }]) w fun e u' w' =>
      e = .returned (.tuple #[]) ∧ u' = .panicking [{ v := .iface 64 (.agg #[.string m, .int .i64 o]), recovered := true }] ∧
        w'.cell? ⟨a0, 0, none⟩ = some (.string ⟨#[]⟩) ∧ w'.cell? ⟨a1, 0, none⟩ = some (.string ⟨#[]⟩) ∧ w'.cell? ⟨a2, 0, none⟩ = some (.iface 64 (.agg #[.string m, .int .i64 o])) ∧ Keep [a0, a1, a2] w w' := by
  have hta : ∀ w : World, (Instr.typeAssert (.iface 64 (.agg #[.string m, .int .i64 o])) 20 64 true).run Try.prog w = .ok (.tuple #[.agg #[.string m, .int .i64 o], .bool true]) w := fun _ => by kernel_rfl
  refine callsD_of_wpS Try.func33 rfl fun c₀ cs hu => ?_
  simp only [Try.ntmps33, List.size_toArray, List.length_cons, List.length_nil, Nat.reduceAdd, Nat.reduceSub, Array.replicate_succ,
     Array.replicate_zero, List.push_toArray, List.append_toArray, List.nil_append, List.cons_append]
  apply wpS_seq
  apply wpS_region
  simp [wpOpsS, go_sem, recoverD, hu, Exit.thenS]
  refine wpS_of_wp ?_
  have l0 : a0 < w.heap.size := cell_lt hc0
  have l1 : a1 < w.heap.size := cell_lt hc1
  have l2 : a2 < w.heap.size := cell_lt hc2
  go_upto_region 4 with fail
  go_region
  all_goals go_wp2
  simp [bodyPostS, results, Try.results33]
  refine ⟨?_, ?_, ?_, ?_⟩
  · go_simp
  · go_simp
  · go_simp
  · repeat' first | exact Keep.refl _ _ | refine Keep.drew ?_ | refine Keep.alloc ?_ _ | refine Keep.set ?_ _ _ (.inl (by simp))
theorem Keep.of_upd {p : Nat} {w w' : World} (h : Upd p w w') (hb : bufOf w p = none) : Keep [p] w w' :=
  ⟨h.os, h.tape, h.output, h.size, fun k h1 h2 => h.block k h1 (by simpa using h2) (by rw [hb]; simp)⟩
theorem Keep.more {S T : List Nat} {w w' : World} (h : Keep S w w') (hs : ∀ k, k ∈ S → k ∈ T) : Keep T w w' :=
  ⟨h.os, h.tape, h.output, h.size, fun k h1 h2 => h.block k h1 (fun hk => h2 (hs k hk))⟩
theorem Keep.less {p : Nat} {S : List Nat} {w w' : World} (h : Keep (p :: S) w w') (hp : w.heap.size ≤ p) : Keep S w w' :=
  ⟨h.os, h.tape, h.output, h.size, fun k h1 h2 => h.block k h1 (fun hk => by rcases List.mem_cons.1 hk with rfl | hk; (· omega); (· exact h2 hk))⟩
theorem RAt.noBuf {w : World} {p : Nat} {st : RS} (h : RAt w p st) (ho : st.out = []) : bufOf w p = none := by
  obtain ⟨addr, sl, h1, -, hn, -⟩ := h
  obtain rfl := hn ho
  unfold bufOf; rw [h1]; rfl
theorem RAt.put {w : World} {p a : Nat} {st : RS} (h : RAt w p st) (he : st.out = []) (hp : p ≠ a) (v : Value) : RAt (w.setCell ⟨a, 0, none⟩ v) p st := h.other he hp v
theorem fresh_rs (w : World) (l : List UInt8) (o1 o2 o3 : Obj) : RAt ((((w.alloc o1).alloc o2).alloc o3).alloc (.cells (rcells (rs0 l) none (.slice none 0 0)).toArray 70)) (w.heap.size + 3) (rs0 l) := by
  refine ⟨none, .slice none 0 0, ?_, .inl rfl, fun _ => rfl, ⟨rfl, .inl ⟨rfl, rfl⟩⟩⟩
  have h := heap_new (((w.alloc o1).alloc o2).alloc o3) (.cells (rcells (rs0 l) none (.slice none 0 0)).toArray 70)
  rwa [show (((w.alloc o1).alloc o2).alloc o3).heap.size = w.heap.size + 3 by simp] at h
theorem idClosure_ok {w : World} {p da ia : Nat} {st : RS} {d : Int} {t r : List UInt8} {v0 v1 : Value} (hR : RAt w p st) (hw : st.Wf) (ho : st.out = []) (hx : Hid (idN st.str = some (some (d, t, r))))
    (hd : w.cell? ⟨da, 0, none⟩ = some v0) (hi : w.cell? ⟨ia, 0, none⟩ = some v1) (fd : w.frozen? ⟨da, 0, none⟩ = false) (fi : w.frozen? ⟨ia, 0, none⟩ = false) (h1 : p ≠ da) (h2 : p ≠ ia) (h3 : da ≠ ia) :
    Calls Try.prog 27 #[.pointer (some ⟨p, 0, none⟩), .pointer (some ⟨da, 0, none⟩), .pointer (some ⟨ia, 0, none⟩)] w fun e w' =>
      e = .returned (.tuple #[]) ∧ RAt w' p (st.go r) ∧ w'.cell? ⟨da, 0, none⟩ = some (.int .i64 d) ∧ w'.cell? ⟨ia, 0, none⟩ = some (.string ⟨t.toArray⟩) ∧ w'.frozen? ⟨da, 0, none⟩ = false ∧ w'.frozen? ⟨ia, 0, none⟩ = false ∧ Keep [p, da, ia] w w' := by
  have hb := hR.noBuf ho
  have hI := identifier_any hR hw hx.out
  go_enter Try.func27, Try.ntmps27
  go_wp2_with (go_at_call 28; refine hI.mono ?_; rintro e w1 hq; obtain ⟨rfl, hR1, hU⟩ := hq; have hk := Keep.of_upd hU hb; have c0 := hk.cell hd (by simp; exact fun h => h1 h.symm); have c1 := hk.cell hi (by simp; exact fun h => h2 h.symm); have f0 := (hk.free (cell_lt hd) (by simp; exact fun h => h1 h.symm)).trans fd; have f1 := (hk.free (cell_lt hi) (by simp; exact fun h => h2 h.symm)).trans fi; have HR1 := Lib.hid hR1; have HK := Lib.hid hk; clear hR1 hU hk)
  go_end0
  have ho2 : (st.go r).out = [] := ho
  refine ⟨rfl, (HR1.out.put ho2 h1 _).put ho2 h2 _, ?_, ?_, ?_, ?_, ?_⟩
  · go_simp
  · go_simp
  · go_simp
  · go_simp
  · exact ((HK.out.more (by simp)).set _ _ (.inl (by simp))).set _ _ (.inl (by simp))
theorem idClosure_bad {w : World} {p da ia : Nat} {st : RS} (hR : RAt w p st) (hw : st.Wf) (ho : st.out = []) (hx : Hid (idN st.str = some none)) :
    Calls Try.prog 27 #[.pointer (some ⟨p, 0, none⟩), .pointer (some ⟨da, 0, none⟩), .pointer (some ⟨ia, 0, none⟩)] w fun e w' =>
      ∃ m o, e = .panicked [{ v := .iface 64 (.agg #[.string m, .int .i64 o]), recovered := false }] ∧ Keep [p] w w' := by
  have hb := hR.noBuf ho
  have hI := identifier_any hR hw hx.out
  go_enter Try.func27, Try.ntmps27
  go_wp2_with (go_at_call 28; refine hI.mono ?_; rintro e w1 hq; obtain ⟨m, o, st1, rfl, hR1, hU⟩ := hq)
  exact ⟨rfl, m, o, rfl, Keep.of_upd hU hb⟩
set_option maxHeartbeats 1000000 in
theorem zzRun_id_ok {w : World} {da ia : Nat} {l t r : List UInt8} {d : Int} {v0 v1 : Value} (hd : w.cell? ⟨da, 0, none⟩ = some v0) (hi : w.cell? ⟨ia, 0, none⟩ = some v1) (fd : w.frozen? ⟨da, 0, none⟩ = false) (fi : w.frozen? ⟨ia, 0, none⟩ = false)
    (h3 : da ≠ ia) (hl : l.length ≤ 2147483648) (hx : Hid (idN l = some (some (d, t, r)))) :
    Calls Try.prog 26 #[.string ⟨l.toArray⟩, .func (.func 27) #[] #[.pointer (some ⟨da, 0, none⟩), .pointer (some ⟨ia, 0, none⟩)]] w fun e w' =>
      e = .returned (.tuple #[.string ⟨#[]⟩, .string ⟨r.toArray⟩, .nilIface]) ∧ w'.cell? ⟨da, 0, none⟩ = some (.int .i64 d) ∧ w'.cell? ⟨ia, 0, none⟩ = some (.string ⟨t.toArray⟩) ∧ w'.frozen? ⟨da, 0, none⟩ = false ∧ w'.frozen? ⟨ia, 0, none⟩ = false ∧ Keep [da, ia] w w' := by
  have hmf : ∀ (fn : Fn) (first cap : Array Value) (w : World), (Instr.makeFunc fn first cap).run Try.prog w = .ok (.func fn first cap) w := fun _ _ _ _ => rfl
  have ld := cell_lt hd
  have li := cell_lt hi
  simp only at ld li
  go_enter_defers Try.func26, Try.ntmps26
  go_wp2_with fail
  refine Calls.mono (idClosure_ok (p := w.heap.size + 3) (st := rs0 l) (v0 := v0) (v1 := v1) (d := d) (t := t) (r := r) ?_ ⟨by simp [rs0], by simp [rs0]; omega⟩ rfl hx ?_ ?_ ?_ ?_ (by omega) (by omega) h3) ?_
  · exact fresh_rs _ _ _ _ _
  · exact (keep4 _ [] _ _ _ _).cell hd (by simp)
  · exact (keep4 _ [] _ _ _ _).cell hi (by simp)
  · exact ((keep4 _ [] _ _ _ _).free ld (by simp)).trans fd
  · exact ((keep4 _ [] _ _ _ _).free li (by simp)).trans fi
  rintro e w1 ⟨rfl, hR, cd, ci, gd, gi, hk⟩
  have hst : w1.cell? ⟨w.heap.size + 1 + 1 + 1, 1, none⟩ = some (.string ⟨r.toArray⟩) := hR.str
  have hn : ∀ k, k = w.heap.size ∨ k = w.heap.size + 1 ∨ k = w.heap.size + 1 + 1 → k ∉ [w.heap.size + 3, da, ia] := fun k h => by simp; omega
  have hc0 : w1.cell? ⟨w.heap.size, 0, none⟩ = some (.string ⟨#[]⟩) := hk.cell (by go_simp) (hn w.heap.size (by simp))
  have hc1 : w1.cell? ⟨w.heap.size + 1, 0, none⟩ = some (.string ⟨#[]⟩) := hk.cell (by simp [go_sem]) (hn (w.heap.size + 1) (by simp))
  have hc2 : w1.cell? ⟨w.heap.size + 1 + 1, 0, none⟩ = some .nilIface := hk.cell (by simp [go_sem]) (hn (w.heap.size + 1 + 1) (by simp))
  have hf0 : w1.frozen? ⟨w.heap.size, 0, none⟩ = false := (hk.free (by simp <;> omega) (hn w.heap.size (by simp))).trans (by simp [go_sem])
  have hf1 : w1.frozen? ⟨w.heap.size + 1, 0, none⟩ = false := (hk.free (by simp <;> omega) (hn (w.heap.size + 1) (by simp))).trans (by simp [go_sem])
  have hf2 : w1.frozen? ⟨w.heap.size + 1 + 1, 0, none⟩ = false := (hk.free (by simp) (hn (w.heap.size + 1 + 1) (by simp))).trans (by simp [go_sem])
  have HKw := Lib.hid (((Keep.refl [w.heap.size + 3, da, ia] w).trans (keep4 w [w.heap.size + 3, da, ia] _ _ _ _)).trans hk)
  clear hk
  go_wp2
  refine wp_region_noPanic ?_
  go_region_with (go_at_call 34; refine (bstring_empty (w := w1.drew) (p := w.heap.size + 3) (st := (rs0 l).go r) hR.drew rfl).mono ?_; rintro e w2 ⟨rfl, rfl⟩)
  all_goals (refine NoPanic.normal ?_; go_wp2)
  all_goals (refine leaves_cons (f := 33) (args := #[.pointer (some ⟨w.heap.size, 0, none⟩), .pointer (some ⟨w.heap.size + 1, 0, none⟩), .pointer (some ⟨w.heap.size + 1 + 1, 0, none⟩)]) (by simp) (by simp [go_sem]) ?_)
  all_goals (refine (catch_idle _ _ _ _).mono ?_; rintro e u' w'' ⟨rfl, rfl, rfl⟩)
  all_goals (simp [Leaves, settle, results, Try.results26, go_sem, hc0, hc1, hc2])
  all_goals (refine ⟨cd, ci, gd, gi, ?_⟩)
  all_goals (repeat' first | exact HKw.out.less (by omega) | refine Keep.drew ?_ | refine Keep.set ?_ _ _ (.inr (by simp <;> omega)))
set_option maxHeartbeats 1000000 in
theorem zzRun_id_bad {w : World} {da ia : Nat} {l : List UInt8} (hl : l.length ≤ 2147483648) (hx : Hid (idN l = some none)) :
    Calls Try.prog 26 #[.string ⟨l.toArray⟩, .func (.func 27) #[] #[.pointer (some ⟨da, 0, none⟩), .pointer (some ⟨ia, 0, none⟩)]] w fun e w' =>
      (∃ m o, e = .returned (.tuple #[.string ⟨#[]⟩, .string ⟨#[]⟩, .iface 64 (.agg #[.string m, .int .i64 o])])) ∧ Keep [] w w' := by
  have hmf : ∀ (fn : Fn) (first cap : Array Value) (w : World), (Instr.makeFunc fn first cap).run Try.prog w = .ok (.func fn first cap) w := fun _ _ _ _ => rfl
  go_enter_defers Try.func26, Try.ntmps26
  go_wp2_with fail
  refine Calls.mono (idClosure_bad (p := w.heap.size + 3) (st := rs0 l) (da := da) (ia := ia) ?_ ⟨by simp [rs0], by simp [rs0]; omega⟩ rfl hx) ?_
  · exact fresh_rs _ _ _ _ _
  rintro e w1 ⟨m, o, rfl, hk⟩
  have hn : ∀ k, k = w.heap.size ∨ k = w.heap.size + 1 ∨ k = w.heap.size + 1 + 1 → k ∉ [w.heap.size + 3] := fun k h => by simp; omega
  have hc0 : w1.cell? ⟨w.heap.size, 0, none⟩ = some (.string ⟨#[]⟩) := hk.cell (by go_simp) (hn w.heap.size (by simp))
  have hc1 : w1.cell? ⟨w.heap.size + 1, 0, none⟩ = some (.string ⟨#[]⟩) := hk.cell (by simp [go_sem]) (hn (w.heap.size + 1) (by simp))
  have hc2 : w1.cell? ⟨w.heap.size + 1 + 1, 0, none⟩ = some .nilIface := hk.cell (by simp [go_sem]) (hn (w.heap.size + 1 + 1) (by simp))
  have hf0 : w1.frozen? ⟨w.heap.size, 0, none⟩ = false := (hk.free (by simp <;> omega) (hn w.heap.size (by simp))).trans (by simp [go_sem])
  have hf1 : w1.frozen? ⟨w.heap.size + 1, 0, none⟩ = false := (hk.free (by simp <;> omega) (hn (w.heap.size + 1) (by simp))).trans (by simp [go_sem])
  have hf2 : w1.frozen? ⟨w.heap.size + 1 + 1, 0, none⟩ = false := (hk.free (by simp) (hn (w.heap.size + 1 + 1) (by simp))).trans (by simp [go_sem])
  have HKw := Lib.hid (((Keep.refl [w.heap.size + 3] w).trans (keep4 w [w.heap.size + 3] _ _ _ _)).trans hk)
  clear hk
  refine leaves_cons (f := 33) (args := #[.pointer (some ⟨w.heap.size, 0, none⟩), .pointer (some ⟨w.heap.size + 1, 0, none⟩), .pointer (some ⟨w.heap.size + 1 + 1, 0, none⟩)]) (by simp) (by simp [go_sem]) ?_
  refine (catch_panic m o w1 (by omega) (by omega) (by omega) hc0 hc1 hc2 hf0 hf1 hf2).mono ?_
  rintro e u' w'' ⟨rfl, rfl, k0, k1, k2, hk2⟩
  simp [Leaves, settle, results, Try.results26, go_sem, k0, k1, k2]
  have a : Keep [w.heap.size, w.heap.size + 1, w.heap.size + 1 + 1] w w'' := ((HKw.out.less (by omega)).more (by simp)).trans hk2
  exact ((a.less (Nat.le_refl _)).less (by omega)).less (by omega)
end Go.Proofs.Ytnmpcmhnnkddjaa
