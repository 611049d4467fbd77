/- The state of the Rust reader in memory. -/
import Derived.Test.YtcelplibjhannaaDoorA
import Derived.Test.YtcelplibjhannaaDoorMem
namespace Go.Proofs.YtcelplibjhannaaDoor
open Go.RowKit

/-- what a reader knows: the text, what is left of it, where that begins, what has been written, and the marks -/
structure RS where
  orig : List UInt8
  str : List UInt8
  off : Int
  out : List UInt8
  skip : Bool
  life : Int
  last : Int
  nogen : Bool
  max : Int
def rcells (st : RS) (addr : Option Addr) (sl : Value) : List Value :=
  [.string ⟨st.orig.toArray⟩, .string ⟨st.str.toArray⟩, .int .i64 st.off, .pointer addr, sl, .bool st.skip, .int .i64 st.life, .int .u8 st.last, .bool st.nogen, .int .i64 st.max]
/-- the state stands in block p -/
def RAt (w : World) (p : Nat) (st : RS) : Prop :=
  ∃ addr sl, w.heap[p]? = some (.cells (rcells st addr sl).toArray 66 (0, 0)) ∧ (addr = none ∨ addr = some ⟨p, 3, none⟩) ∧ (st.out = [] → sl = .slice none 0 0) ∧ w.ownsRow (p + 1) 5 1 sl st.out.length (byts st.out)
/-- the row of the text that has been written -/
def bufOf (w : World) (p : Nat) : Option Nat :=
  match w.heap[p]? with
  | some (.cells c _ _) => (c[4]?).bind Value.ownBlock
  | _ => none
/-- what a step of the reader leaves alone -/
structure Upd (p : Nat) (w w' : World) : Prop where
  os : w'.os = w.os
  tape : w'.tape = w.tape
  output : w'.output = w.output
  size : w.heap.size ≤ w'.heap.size
  block : ∀ k, k < w.heap.size → k ≠ p → bufOf w p ≠ some k → w'.heap[k]? = w.heap[k]?
  buf : ∀ k, bufOf w' p = some k → bufOf w p = some k ∨ w.heap.size ≤ k
theorem Upd.refl (p : Nat) (w : World) : Upd p w w := ⟨rfl, rfl, rfl, Nat.le_refl _, fun _ _ _ _ => rfl, fun _ h => .inl h⟩
theorem Upd.trans {p : Nat} {a b c : World} (h : Upd p a b) (k : Upd p b c) : Upd p a c :=
  ⟨k.os.trans h.os, k.tape.trans h.tape, k.output.trans h.output, Nat.le_trans h.size k.size,
   fun i h1 h2 h3 => by
     rw [k.block i (Nat.lt_of_lt_of_le h1 h.size) h2 (fun h4 => by rcases h.buf i h4 with h5 | h5; exact h3 h5; omega), h.block i h1 h2 h3],
   fun i h1 => by
     rcases k.buf i h1 with h2 | h2
     · exact h.buf i h2
     · exact .inr (Nat.le_trans h.size h2)⟩
theorem Upd.drew {p : Nat} {a w : World} (h : Upd p a w) : Upd p a w.drew := ⟨h.os, h.tape, h.output, h.size, h.block, h.buf⟩
theorem bufOf_set {p : Nat} {w : World} {i : Nat} {v : Value} (hi : i ≠ 4) : bufOf (w.setCell ⟨p, i, none⟩ v) p = bufOf w p := by
  unfold bufOf World.setCell
  simp only [Array.getElem?_modify, if_true]
  cases h : w.heap[p]? with
  | none => simp
  | some o =>
    cases o <;> simp [hi]
theorem Upd.set {p : Nat} {a w : World} (h : Upd p a w) (i : Nat) (v : Value) (hi : i ≠ 4) : Upd p a (w.setCell ⟨p, i, none⟩ v) :=
  ⟨h.os, h.tape, h.output, by simp [World.setCell]; exact h.size,
   fun k h1 h2 h3 => by rw [Below.heap_setCell _ _ _ _ h2]; exact h.block k h1 h2 h3, fun k hk => h.buf k (by rwa [bufOf_set hi] at hk)⟩
theorem RAt.orig {w : World} {p : Nat} {st : RS} (h : RAt w p st) : w.cell? ⟨p, 0, none⟩ = some (.string ⟨st.orig.toArray⟩) := by
  obtain ⟨addr, sl, hb, -, -, -⟩ := h; exact cells_at hb 0 (by simp [rcells])
theorem RAt.str {w : World} {p : Nat} {st : RS} (h : RAt w p st) : w.cell? ⟨p, 1, none⟩ = some (.string ⟨st.str.toArray⟩) := by
  obtain ⟨addr, sl, hb, -, -, -⟩ := h; exact cells_at hb 1 (by simp [rcells])
theorem RAt.off {w : World} {p : Nat} {st : RS} (h : RAt w p st) : w.cell? ⟨p, 2, none⟩ = some (.int .i64 st.off) := by
  obtain ⟨addr, sl, hb, -, -, -⟩ := h; exact cells_at hb 2 (by simp [rcells])
theorem RAt.skip {w : World} {p : Nat} {st : RS} (h : RAt w p st) : w.cell? ⟨p, 5, none⟩ = some (.bool st.skip) := by
  obtain ⟨addr, sl, hb, -, -, -⟩ := h; exact cells_at hb 5 (by simp [rcells])
theorem RAt.life {w : World} {p : Nat} {st : RS} (h : RAt w p st) : w.cell? ⟨p, 6, none⟩ = some (.int .i64 st.life) := by
  obtain ⟨addr, sl, hb, -, -, -⟩ := h; exact cells_at hb 6 (by simp [rcells])
theorem RAt.last {w : World} {p : Nat} {st : RS} (h : RAt w p st) : w.cell? ⟨p, 7, none⟩ = some (.int .u8 st.last) := by
  obtain ⟨addr, sl, hb, -, -, -⟩ := h; exact cells_at hb 7 (by simp [rcells])
theorem RAt.nogen {w : World} {p : Nat} {st : RS} (h : RAt w p st) : w.cell? ⟨p, 8, none⟩ = some (.bool st.nogen) := by
  obtain ⟨addr, sl, hb, -, -, -⟩ := h; exact cells_at hb 8 (by simp [rcells])
theorem RAt.max {w : World} {p : Nat} {st : RS} (h : RAt w p st) : w.cell? ⟨p, 9, none⟩ = some (.int .i64 st.max) := by
  obtain ⟨addr, sl, hb, -, -, -⟩ := h; exact cells_at hb 9 (by simp [rcells])
theorem RAt.free {w : World} {p : Nat} {st : RS} (h : RAt w p st) (i : Nat) : w.frozen? ⟨p, i, none⟩ = false := by
  obtain ⟨addr, sl, hb, -, -, -⟩ := h; exact cells_free hb i
theorem RAt.lt {w : World} {p : Nat} {st : RS} (h : RAt w p st) : p < w.heap.size := by
  obtain ⟨addr, sl, hb, -, -, -⟩ := h; exact (Array.getElem?_eq_some_iff.1 hb).1
theorem RAt.set_str {w : World} {p : Nat} {st : RS} (h : RAt w p st) (x : List UInt8) : RAt (w.setCell ⟨p, 1, none⟩ (.string ⟨x.toArray⟩)) p { st with str := x } := by
  obtain ⟨addr, sl, hb, ha, hn, ho⟩ := h
  exact ⟨addr, sl, by rw [cells_set hb]; rfl, ha, hn, ownsRow_setCell_below ho (by simp) _⟩
theorem RAt.set_off {w : World} {p : Nat} {st : RS} (h : RAt w p st) (x : Int) : RAt (w.setCell ⟨p, 2, none⟩ (.int .i64 x)) p { st with off := x } := by
  obtain ⟨addr, sl, hb, ha, hn, ho⟩ := h
  exact ⟨addr, sl, by rw [cells_set hb]; rfl, ha, hn, ownsRow_setCell_below ho (by simp) _⟩
theorem RAt.set_skip {w : World} {p : Nat} {st : RS} (h : RAt w p st) (x : Bool) : RAt (w.setCell ⟨p, 5, none⟩ (.bool x)) p { st with skip := x } := by
  obtain ⟨addr, sl, hb, ha, hn, ho⟩ := h
  exact ⟨addr, sl, by rw [cells_set hb]; rfl, ha, hn, ownsRow_setCell_below ho (by simp) _⟩
theorem RAt.set_life {w : World} {p : Nat} {st : RS} (h : RAt w p st) (x : Int) : RAt (w.setCell ⟨p, 6, none⟩ (.int .i64 x)) p { st with life := x } := by
  obtain ⟨addr, sl, hb, ha, hn, ho⟩ := h
  exact ⟨addr, sl, by rw [cells_set hb]; rfl, ha, hn, ownsRow_setCell_below ho (by simp) _⟩
theorem RAt.set_last {w : World} {p : Nat} {st : RS} (h : RAt w p st) (x : Int) : RAt (w.setCell ⟨p, 7, none⟩ (.int .u8 x)) p { st with last := x } := by
  obtain ⟨addr, sl, hb, ha, hn, ho⟩ := h
  exact ⟨addr, sl, by rw [cells_set hb]; rfl, ha, hn, ownsRow_setCell_below ho (by simp) _⟩
theorem RAt.drew {w : World} {p : Nat} {st : RS} (h : RAt w p st) : RAt w.drew p st := h
structure RS.Wf (st : RS) : Prop where
  o0 : 0 ≤ st.off
  o1 : st.off + st.str.length ≤ 4294967296
/-- the state further on: what is left now -/
def RS.go (st : RS) (l : List UInt8) : RS := { st with str := l, off := st.off + (st.str.length - l.length) }
def Ret (p : Nat) (w : World) (st : RS) (v : Value) (e : Ending) (w' : World) : Prop := e = .returned v ∧ RAt w' p st ∧ Upd p w w'
/-- the reader's own panic -/
def Fails (p : Nat) (w : World) (e : Ending) (w' : World) : Prop :=
  ∃ m o st, e = .panicked [{ v := .iface 58 (.agg #[.string m, .int .i64 o]), recovered := false }] ∧ RAt w' p st ∧ Upd p w w'
theorem RS.go_go (st : RS) (a b : List UInt8) : (st.go a).go b = st.go b := by
  simp only [RS.go, RS.mk.injEq, true_and, and_true]; omega
theorem RS.go_self (st : RS) : st.go st.str = st := by simp [RS.go]
end Go.Proofs.YtcelplibjhannaaDoor
