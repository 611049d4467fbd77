/- Walks of the doors to a whole name. -/
import Derived.Test.YtcelplibjhannaaDoorX
namespace Go.Proofs.YtcelplibjhannaaDoor
open Go.RowKit

theorem below_less {A B : Nat} {w w' : World} (h : Below B w w') (hA : A ≤ B) : Below A w w' := ⟨h.os, h.tape, h.output, h.size, fun k hk => h.block k (by omega)⟩
theorem list_nil (w : World) : Calls Tryd.prog 20 #[.agg #[.bool false, .bool false, .bool false, .bool false, .bool false, .bool false, .bool false, .int .i64 0]] w fun e w' => e = .returned (.slice none 0 0) ∧ Below w.heap.size w w' := by
  go_enter Tryd.func20, Tryd.ntmps20
  go_wp2
  go_ret
  exact ⟨rfl, (Below.refl _ w).alloc (Nat.le_refl _) _⟩
theorem toString_door {w : World} {l : List UInt8} {st : RS} (hl : l.length ≤ 4294967000) (hd : ∀ c ∈ l, c ≠ 46) (hs : st.str = []) (hm : st.max = 0) (ho : st.out ≠ [])
    (hin : ∀ w p, RAt w p (rs1 l false 0) → Calls Tryd.prog 33 #[.pointer (some ⟨p, 0, none⟩)] w fun e w' => StRes p w (some st) e w') :
    Calls Tryd.prog 19 #[.string ⟨(95 :: 82 :: l).toArray⟩, .slice none 0 0] w fun e w' => e = .returned (.tuple #[.string ⟨st.out.toArray⟩, .nilIface]) ∧ Below w.heap.size w w' := by
  have H := Lib.hid (toString_ok (w := w) hl hd hs hm ho hin)
  clear hd hin
  go_enter Tryd.func19, Tryd.ntmps19
  go_wp2_with fail
  refine H.out.mono ?_
  rintro e w1 ⟨rfl, hb⟩
  go_wp2
  go_ret2
  exact ⟨rfl, hb⟩
theorem told_ok {w : World} {l : List UInt8} {st : RS} (hl : l.length ≤ 4294967000) (hd : ∀ c ∈ l, c ≠ 46) (hs : st.str = []) (hm : st.max = 0) (ho : st.out ≠ [])
    (hin : ∀ w p, RAt w p (rs1 l false 0) → Calls Tryd.prog 33 #[.pointer (some ⟨p, 0, none⟩)] w fun e w' => StRes p w (some st) e w') :
    Calls Tryd.prog 12 #[.string ⟨(95 :: 82 :: l).toArray⟩, .agg #[.bool false, .bool false, .bool false, .bool false, .bool false, .bool false, .bool false, .int .i64 0]] w fun e w' => e = .returned (.tuple #[.string ⟨st.out.toArray⟩, .int .i64 0]) ∧ Below w.heap.size w w' := by
  have H : Hid (∀ w : World, Calls Tryd.prog 19 #[.string ⟨(95 :: 82 :: l).toArray⟩, .slice none 0 0] w fun e w' => e = .returned (.tuple #[.string ⟨st.out.toArray⟩, .nilIface]) ∧ Below w.heap.size w w') := fun w => toString_door hl hd hs hm ho hin
  clear hd hin
  go_enter Tryd.func12, Tryd.ntmps12
  go_wp2_with fail
  refine (list_nil _).mono ?_
  rintro e w1 ⟨rfl, hb1⟩
  go_wp2_with fail
  refine (H.out w1).mono ?_
  rintro e w2 ⟨rfl, hb2⟩
  have hB : Hid (Below w.heap.size w w2) := by
    have a : Below w.heap.size w (w.alloc _) := (Below.refl _ w).alloc (Nat.le_refl _) (Obj.cells #[Value.bool false, Value.bool false, Value.bool false, Value.bool false, Value.bool false, Value.bool false, Value.bool false, Value.int IntKind.i64 0] 38)
    have b := below_less (A := w.heap.size) hb1 (by simp)
    have c := below_less (A := w.heap.size) hb2 (by have := hb1.size; simp at this; omega)
    exact (a.trans b).trans c
  clear hb1 hb2
  go_wp2
  go_ret2
  exact ⟨rfl, hB.out⟩
theorem idTold_ok {w : World} {l : List UInt8} {st : RS} (hl : l.length ≤ 4294967000) (hd : ∀ c ∈ l, c ≠ 46) (hs : st.str = []) (hm : st.max = 0) (ho : st.out ≠ [])
    (hin : ∀ w p, RAt w p (rs1 l false 0) → Calls Tryd.prog 33 #[.pointer (some ⟨p, 0, none⟩)] w fun e w' => StRes p w (some st) e w') :
    Calls Tryd.prog 6 #[.string ⟨(95 :: 82 :: l).toArray⟩, .string ⟨st.out.toArray⟩] w fun e w' => e = .returned (.bool true) ∧ Below w.heap.size w w' := by
  have H : Hid (∀ w : World, Calls Tryd.prog 12 #[.string ⟨(95 :: 82 :: l).toArray⟩, .agg #[.bool false, .bool false, .bool false, .bool false, .bool false, .bool false, .bool false, .int .i64 0]] w fun e w' => e = .returned (.tuple #[.string ⟨st.out.toArray⟩, .int .i64 0]) ∧ Below w.heap.size w w') := fun w => told_ok hl hd hs hm ho hin
  clear hd hin
  go_enter Tryd.func6, Tryd.ntmps6
  go_wp2_with fail
  refine (H.out _).mono ?_
  rintro e w1 ⟨rfl, hb⟩
  go_wp2
  go_ret
  exact ⟨rfl, hb⟩
end Go.Proofs.YtcelplibjhannaaDoor
