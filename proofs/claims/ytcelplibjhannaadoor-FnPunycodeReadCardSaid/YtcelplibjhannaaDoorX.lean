/- Walks of the reader of a whole name. -/
import Derived.Test.YtcelplibjhannaaDoorQ
import Derived.Deep.RegionHeld3
import Derived.Recover
import Derived.RegionTactic
namespace Go.Proofs.YtcelplibjhannaaDoor
open Go.RowKit

/-- the state at the beginning of a name -/
def rs1 (l : List UInt8) (ng : Bool) (mx : Int) : RS := { orig := l, str := l, off := 0, out := [], skip := false, life := 0, last := 0, nogen := ng, max := mx }
theorem idle1 (a b : Value) (w : World) :
    CallsD Tryd.prog 29 #[a, b] .returning w fun e u' w' => e = .returned (.tuple #[]) ∧ u' = .returning ∧ w' = w := by
  refine callsD_of_wpS Tryd.func29 rfl fun c₀ cs hu => ?_
  apply wpS_seq
  apply wpS_region
  simp [wpOpsS, go_sem, recoverD, hu, Tryd.ntmps29, Exit.thenS]
  apply wpS_seq
  apply wpS_region
  simp [wpOpsS, go_sem, Exit.thenS, Act.eval, Array.replicate]
  refine wpS_cond (t := false) (by simp [Act.eval]) ?_
  simp only [Bool.false_eq_true, if_false]
  refine wpS_of_wp (wp_skip ?_)
  cases c₀
  simp_all [bodyPostS, results, Tryd.results29]
theorem Upd.under {p : Nat} {w w' : World} (h : Upd p w w') (hb : bufOf w p = none) (B : Nat) (hB : B ≤ p) (hs : B ≤ w.heap.size) : Below B w w' :=
  ⟨h.os, h.tape, h.output, h.size, fun k hk => h.block k (by omega) (by omega) (by rw [hb]; simp)⟩
theorem fresh1 (w : World) (l : List UInt8) (o1 o2 : Obj) : RAt (((w.alloc o1).alloc o2).alloc (.cells (rcells (rs1 l false 0) none (.slice none 0 0)).toArray 66)) (w.heap.size + 2) (rs1 l false 0) := by
  refine ⟨none, .slice none 0 0, ?_, .inl rfl, fun _ => rfl, ⟨rfl, .inl ⟨rfl, rfl⟩⟩⟩
  have h := heap_new ((w.alloc o1).alloc o2) (.cells (rcells (rs1 l false 0) none (.slice none 0 0)).toArray 66)
  rwa [show ((w.alloc o1).alloc o2).heap.size = w.heap.size + 2 by simp] at h
theorem fresh1_buf (w : World) (l : List UInt8) (o1 o2 : Obj) : bufOf (((w.alloc o1).alloc o2).alloc (.cells (rcells (rs1 l false 0) none (.slice none 0 0)).toArray 66)) (w.heap.size + 2) = none := by
  have h := heap_new ((w.alloc o1).alloc o2) (.cells (rcells (rs1 l false 0) none (.slice none 0 0)).toArray 66)
  rw [show ((w.alloc o1).alloc o2).heap.size = w.heap.size + 2 by simp] at h
  unfold bufOf; rw [h]; rfl
set_option maxHeartbeats 2000000 in
set_option maxRecDepth 100000 in
theorem toString_ok {w : World} {l : List UInt8} {st : RS} (hl : l.length ≤ 4294967000) (hd : ∀ c ∈ l, c ≠ 46) (hs : st.str = []) (hm : st.max = 0) (ho : st.out ≠ [])
    (hin : ∀ w p, RAt w p (rs1 l false 0) → Calls Tryd.prog 33 #[.pointer (some ⟨p, 0, none⟩)] w fun e w' => StRes p w (some st) e w') :
    Calls Tryd.prog 25 #[.string ⟨(95 :: 82 :: l).toArray⟩, .slice none 0 0] w fun e w' => e = .returned (.tuple #[.string ⟨st.out.toArray⟩, .nilIface]) ∧ Below w.heap.size w w' := by
  have hmf : ∀ (fn : Fn) (first cap : Array Value) (w : World), (Instr.makeFunc fn first cap).run Tryd.prog w = .ok (.func fn first cap) w := fun _ _ _ _ => rfl
  have hpre : Lib.hasPrefix (⟨(95 :: 82 :: l).toArray⟩ : ByteArray).data.toList (⟨#[95, 82]⟩ : ByteArray).data.toList = true := by simp [Lib.hasPrefix]
  have hd2 : Hid (∀ c ∈ (95 :: 82 :: l : List UInt8), c ≠ 46) := by
    intro c hc
    rcases List.mem_cons.1 hc with rfl | hc
    · decide
    · rcases List.mem_cons.1 hc with rfl | hc
      · decide
      · exact hd c hc
  have HI := Lib.hid hin
  clear hin hd
  go_enter_defers Tryd.func25, Tryd.ntmps25
  go_wp2_with (first
    | (go_at_call 28; refine (Tryd.strings_HasPrefix _ _ _).mono ?_; rintro e w' ⟨rfl, rfl⟩; rw [hpre])
    | (go_at_call 30; refine (zzIndex_dot (95 :: 82 :: l) (by simp; omega) hd2.out _).mono ?_; rintro e w' ⟨rfl, rfl⟩))
  go_loop [38] (fun iv => iv = .int .i64 0) (fun _ => 0)
  case atStart => rfl
  case round =>
    obtain rfl := hrel
    go_wp2_with fail
    have hR0 := fresh1 w l (Obj.cells #[Value.string ⟨#[]⟩] 9) (Obj.cells #[Value.nilIface] 46)
    have hB0 := fresh1_buf w l (Obj.cells #[Value.string ⟨#[]⟩] 9) (Obj.cells #[Value.nilIface] 46)
    refine (HI.out _ (w.heap.size + 2) hR0).mono ?_
    rintro e w1 ⟨rfl, hR1, hU1⟩
    have hb0 : Below w.heap.size w _ := (((Below.refl _ w).alloc (Nat.le_refl _) (Obj.cells #[Value.string ⟨#[]⟩] 9)).alloc (by simp) (Obj.cells #[Value.nilIface] 46)).alloc (by simp; omega) (.cells (rcells (rs1 l false 0) none (.slice none 0 0)).toArray 66)
    have s1 : w1.cell? ⟨w.heap.size + 1 + 1, 1, none⟩ = some (.string ⟨#[]⟩) := by have := hR1.str; rw [hs] at this; exact this
    have m1 : w1.cell? ⟨w.heap.size + 1 + 1, 9, none⟩ = some (.int .i64 0) := by have := hR1.max; rw [hm] at this; exact this
    have HB0 := Lib.hid hB0; have HBB := Lib.hid hb0
    clear hB0 hb0
    go_wp2_with fail
    refine (bstring_full hR1 ho).mono ?_
    rintro e w2 ⟨rfl, hU2, hp2⟩
    have k2 := (hU1.trans hU2).under HB0.out (w.heap.size + 2) (Nat.le_refl _) (by simp)
    have m2 : w2.cell? ⟨w.heap.size + 1 + 1, 9, none⟩ = some (.int .i64 0) := by rw [← m1]; exact World.cell?_of_block (w := w1) (a := ⟨w.heap.size + 1 + 1, 9, none⟩) hp2
    have r0 : w2.cell? ⟨w.heap.size, 0, none⟩ = some (.string ⟨#[]⟩) := by rw [k2.cell (p := ⟨w.heap.size, 0, none⟩) (by simp)]; go_simp
    have r1 : w2.cell? ⟨w.heap.size + 1, 0, none⟩ = some .nilIface := by rw [k2.cell (p := ⟨w.heap.size + 1, 0, none⟩) (by simp)]; simp [go_sem]
    have f0 : w2.frozen? ⟨w.heap.size, 0, none⟩ = false := by rw [k2.frozen (p := ⟨w.heap.size, 0, none⟩) (by simp)]; go_simp
    have f1 : w2.frozen? ⟨w.heap.size + 1, 0, none⟩ = false := by rw [k2.frozen (p := ⟨w.heap.size + 1, 0, none⟩) (by simp)]; simp [go_sem]
    have HK := Lib.hid (HBB.out.trans ((show Below w.heap.size _ w2 from ⟨k2.os, k2.tape, k2.output, k2.size, fun k hk => k2.block k (by omega)⟩)))
    clear k2 hU1 hU2 hR1 hR0 s1 m1 hp2
    go_wp2_with fail
    refine leaves_cons (f := 29) (args := #[.pointer (some ⟨w.heap.size, 0, none⟩), .pointer (some ⟨w.heap.size + 1, 0, none⟩)]) (by simp) (by simp [go_sem]) ?_
    refine (idle1 _ _ _).mono ?_
    rintro e u' w'' ⟨rfl, rfl, rfl⟩
    simp [Leaves, settle, results, Tryd.results25, go_sem, r0, r1]
    exact (HK.out.setCell (by simp) _).setCell (by simp) _
end Go.Proofs.YtcelplibjhannaaDoor
