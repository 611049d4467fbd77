/- Walks of paths: the root of a crate, and a nested name. -/
import Derived.Test.YtcelplibjhannaaDoorV
import Derived.Test.YtcelplibjhannaaDoorL
namespace Go.Proofs.YtcelplibjhannaaDoor
open Go.RowKit

/-- a block of one cell that holds what the reader's steps leave alone -/
def Bx (w : World) (p k : Nat) (v : Value) : Prop := w.cell? ⟨k, 0, none⟩ = some v ∧ k ≠ p ∧ bufOf w p ≠ some k ∧ k < w.heap.size
theorem Bx.upd {w w' : World} {p k : Nat} {v : Value} (h : Bx w p k v) (hU : Upd p w w') : Bx w' p k v := by
  obtain ⟨h1, h2, h3, h4⟩ := h
  have hb := hU.block k h4 h2 h3
  refine ⟨?_, h2, ?_, Nat.lt_of_lt_of_le h4 hU.size⟩
  · rw [← h1]; simp only [World.cell?, hb]
  · intro hk; rcases hU.buf k hk with h5 | h5
    · exact h3 h5
    · omega
theorem RAt.alloc {w : World} {p : Nat} {st : RS} (h : RAt w p st) (o : Obj) : RAt (w.alloc o) p st :=
  h.below ((Below.refl _ w).alloc (Nat.le_refl _) o)
theorem Upd.alloc {w : World} {p : Nat} {st : RS} (h : RAt w p st) (o : Obj) : Upd p w (w.alloc o) :=
  Upd.of_below h.lt ((Below.refl _ w).alloc (Nat.le_refl _) o)
theorem bufOf_lt {w : World} {p k : Nat} {st : RS} (h : RAt w p st) (hk : bufOf w p = some k) : k < w.heap.size := by
  obtain ⟨addr, sl, hb, -, -, ho⟩ := h
  have : sl.ownBlock = some k := by unfold bufOf at hk; rw [hb] at hk; exact hk
  rcases ho.2 with ⟨rfl, _⟩ | ⟨g, cap, cur, rfl, _, hg, _⟩
  · cases this
  · cases this; exact (Array.getElem?_eq_some_iff.1 hg).1
theorem bufOf_alloc {w : World} {p : Nat} {st : RS} (h : RAt w p st) (o : Obj) : bufOf (w.alloc o) p = bufOf w p := by
  unfold bufOf; rw [World.alloc, Array.getElem?_push_lt h.lt, Array.getElem?_eq_getElem h.lt]
theorem Bx.new {w : World} {p : Nat} {st : RS} (h : RAt w p st) (v : Value) (t : TypeId) : Bx (w.alloc (Obj.cells #[v] t)) p w.heap.size v := by
  refine ⟨?_, by have := h.lt; omega, fun hk => ?_, by simp⟩
  · unfold World.cell?; rw [heap_new]; rfl
  · rw [bufOf_alloc h] at hk; have := bufOf_lt h hk; omega
/-- the two blocks that a walk of a path begins with -/
def pw (w : World) (p : Nat) (b : Bool) : World := (w.alloc (Obj.cells #[.pointer (some ⟨p, 0, none⟩)] 61)).alloc (Obj.cells #[.bool b] 4)
theorem boxed {w : World} {p : Nat} {st : RS} (hR : RAt w p st) (b : Bool) :
    RAt (pw w p b) p st ∧ Upd p w (pw w p b) ∧ Bx (pw w p b) p w.heap.size (.pointer (some ⟨p, 0, none⟩)) ∧ Bx (pw w p b) p (w.heap.size + 1) (.bool b) := by
  have h1 := hR.alloc (Obj.cells #[.pointer (some ⟨p, 0, none⟩)] 61)
  have h2 := h1.alloc (Obj.cells #[.bool b] 4)
  have u1 := Upd.alloc hR (Obj.cells #[.pointer (some ⟨p, 0, none⟩)] 61)
  have u2 := Upd.alloc h1 (Obj.cells #[.bool b] 4)
  refine ⟨h2, u1.trans u2, (Bx.new hR _ _).upd u2, ?_⟩
  have h3 := Bx.new h1 (.bool b) 4
  have : (w.alloc (Obj.cells #[.pointer (some ⟨p, 0, none⟩)] 61)).heap.size = w.heap.size + 1 := by simp
  rw [this] at h3; exact h3
/-- what a reader that hands nothing back leaves -/
def StRes (p : Nat) (w : World) (x : Option RS) (e : Ending) (w' : World) : Prop :=
  match x with
  | some st' => Ret p w st' (.tuple #[]) e w'
  | none => Fails p w e w'
set_option maxRecDepth 100000 in
set_option maxHeartbeats 2000000 in
theorem path_C {w : World} {p : Nat} {st : RS} {b : Bool} {r : List UInt8} {x : Option (Int × List UInt8 × List UInt8)} (hR : RAt w p st) (hw : st.Wf) (hs : st.str = 67 :: r) (hx : idN r = some x)
    (hl : ∀ z, x = some z → st.out.length + z.2.1.length ≤ 70368744177664) :
    Calls Tryd.prog 44 #[.pointer (some ⟨p, 0, none⟩), .bool b] w fun e w' => StRes p w (x.map fun z => (st.go z.2.2).wr z.2.1) e w' := by
  obtain ⟨hR0, hU0, hB0, -⟩ := boxed hR b
  have h1 := hR0.str
  unfold pw at h1
  rw [hs] at h1
  have HS := Lib.hid hs
  clear hs
  go_enter Tryd.func44, Tryd.ntmps44
  go_wp2_with (go_at_call 53; refine (advance1 hR0 hw HS).mono ?_; rintro e w1 ⟨rfl, hR1, hU1⟩; have c1 := (hB0.upd hU1).1)
  refine (identifier_any hR1 (wf_go hw (by rw [HS.out]; simp)) (show idN (st.go r).str = some x from hx)).mono ?_
  intro e w2 hn
  cases x with
  | none =>
    obtain ⟨m, o, st1, rfl, hR2, hU2⟩ := hn
    go_wp2
    exact ⟨rfl, m, o, st1, rfl, hR2, (hU0.trans hU1).trans hU2⟩
  | some z =>
    obtain ⟨d, t, r2⟩ := z
    obtain ⟨rfl, hR2, hU2⟩ := hn
    rw [RS.go_go] at hR2
    have c2 := ((hB0.upd hU1).upd hU2).1
    have hl2 := hl _ rfl
    go_wp2_with (go_at_call 35; refine (writeString_any hR2 hl2).mono ?_; rintro e w3 ⟨rfl, hR3, hU3⟩)
    go_end0
    exact ⟨rfl, hR3, ((hU0.trans hU1).trans hU2).trans hU3⟩
theorem wr_len (st : RS) (s : List UInt8) : (st.wr s).out.length ≤ st.out.length + s.length := by
  unfold RS.wr; split
  · omega
  · split
    · simp
    · split
      · omega
      · simp
theorem wr_str (st : RS) (s : List UInt8) : (st.wr s).str = st.str := by
  unfold RS.wr; split
  · rfl
  · split
    · rfl
    · split <;> rfl
theorem wr_off (st : RS) (s : List UInt8) : (st.wr s).off = st.off := by
  unfold RS.wr; split
  · rfl
  · split
    · rfl
    · split <;> rfl
theorem wf_wr {st : RS} (h : st.Wf) (s : List UInt8) : (st.wr s).Wf := ⟨by rw [wr_off]; exact h.o0, by rw [wr_off, wr_str]; exact h.o1⟩
/-- what stands behind a nested name -/
def thenN (y : Option RS) (x : Option (Int × List UInt8 × List UInt8)) : Option RS := y.bind fun y => x.map fun z => ((y.go z.2.2).wr [58, 58]).wr z.2.1
set_option maxRecDepth 100000 in
set_option maxHeartbeats 400000 in
theorem path_N {w : World} {p : Nat} {st : RS} {b : Bool} {ns : UInt8} {r : List UInt8} {y : Option RS} {x : Option (Int × List UInt8 × List UInt8)} (hR : RAt w p st) (hw : st.Wf) (hs : st.str = 78 :: ns :: r)
    (ha : 97 ≤ (ns.toNat : Int)) (hz : (ns.toNat : Int) ≤ 122)
    (hin : ∀ w, RAt w p (st.go r) → Calls Tryd.prog 44 #[.pointer (some ⟨p, 0, none⟩), .bool b] w fun e w' => StRes p w y e w')
    (hx : ∀ y', y = some y' → y'.Wf ∧ idN y'.str = some x ∧ ∀ z, x = some z → y'.out.length + 2 + z.2.1.length ≤ 70368744177664) :
    Calls Tryd.prog 44 #[.pointer (some ⟨p, 0, none⟩), .bool b] w fun e w' => StRes p w (thenN y x) e w' := by
  obtain ⟨hR0, hU0, hB0, hB1⟩ := boxed hR b
  have h1 := hR0.str
  unfold pw at h1
  rw [hs] at h1
  have HS := Lib.hid hs
  clear hs
  have h65 : decide (65 ≤ (ns.toNat : Int)) = true := by simp; omega
  have h90 : decide ((ns.toNat : Int) ≤ 90) = false := by simp; omega
  have hwr : ∀ l : List UInt8, l.length ≤ r.length + 1 → (st.go l).Wf := fun l hl => wf_go hw (by rw [HS.out]; simp; omega)
  have hw1 := hwr (ns :: r) (by simp)
  go_enter Tryd.func44, Tryd.ntmps44
  go_wp2_with (first
    | (go_at_call 53; refine (advance1 hR0 hw HS).mono ?_; rintro e w1 ⟨rfl, hR1, hU1⟩; have c1 := (hB0.upd hU1).1; have s1 : w1.cell? ⟨p, 1, none⟩ = some (.string ⟨(ns :: r).toArray⟩) := hR1.str)
    | (go_at_call 53; refine (advance1 hR1 hw1 (show Hid ((st.go (ns :: r)).str = ns :: r) from rfl)).mono ?_; rintro e w2 ⟨rfl, hR2', hU2⟩; have hR2 : RAt w2 p (st.go r) := (RS.go_go st (ns :: r) r) ▸ hR2'; have c2 := ((hB0.upd hU1).upd hU2).1; have d2 := ((hB1.upd hU1).upd hU2).1))
  refine (hin w2 hR2).mono ?_
  intro e w3 hn
  have HX := Lib.hid hx
  clear hx hin
  cases y with
  | none =>
    obtain ⟨m, o, st1, rfl, hR3, hU3⟩ := hn
    go_wp2
    exact ⟨rfl, m, o, st1, rfl, hR3, ((hU0.trans hU1).trans hU2).trans hU3⟩
  | some y =>
    obtain ⟨rfl, hR3, hU3⟩ := hn
    obtain ⟨hwy, hid, hlen⟩ := HX.out y rfl
    have c3 := (((hB0.upd hU1).upd hU2).upd hU3).1
    clear HX
    go_wp2_with fail
    refine (identifier_any hR3 hwy hid).mono ?_
    intro e w4 hn
    cases x with
    | none =>
      obtain ⟨m, o, st1, rfl, hR4, hU4⟩ := hn
      go_wp2
      exact ⟨rfl, m, o, st1, rfl, hR4, (((hU0.trans hU1).trans hU2).trans hU3).trans hU4⟩
    | some z =>
      obtain ⟨d, t, r2⟩ := z
      obtain ⟨rfl, hR4, hU4⟩ := hn
      have c4 := ((((hB0.upd hU1).upd hU2).upd hU3).upd hU4).1
      have hl2 := hlen _ rfl
      have hl4 : (y.go r2).out.length + [(58 : UInt8), 58].length ≤ 70368744177664 := by show y.out.length + 2 ≤ _; exact Nat.le_trans (Nat.le_add_right _ _) hl2
      have hl5 : ((y.go r2).wr [58, 58]).out.length + t.length ≤ 70368744177664 := by
        have hl3 : ((y.go r2).wr [58, 58]).out.length ≤ y.out.length + 2 := wr_len (y.go r2) [58, 58]
        exact Nat.le_trans (Nat.add_le_add_right hl3 _) hl2
      go_wp2_with fail
      refine (writeString_any (s := [58, 58]) hR4 hl4).mono ?_
      rintro e w5 ⟨rfl, hR5, hU5⟩
      have c5 := (((((hB0.upd hU1).upd hU2).upd hU3).upd hU4).upd hU5).1
      clear hl4 h1 s1
      go_wp2_with fail
      refine (writeString_any hR5 hl5).mono ?_
      rintro e w6 ⟨rfl, hR6, hU6⟩
      go_wp2
      go_end0
      exact ⟨rfl, hR6, (((((hU0.trans hU1).trans hU2).trans hU3).trans hU4).trans hU5).trans hU6⟩
end Go.Proofs.YtcelplibjhannaaDoor
