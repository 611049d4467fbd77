/- Rows of memory that a call owns: opened and made (no program). -/
import Derived.Test.YtcelplibjhannaaDoorM
import Derived.Laws.CopyOwn
import Derived.Laws.OwnMore
import Derived.Laws.MakeOwn
namespace Go.Proofs.YtcelplibjhannaaDoor
open Go.RowKit

theorem owns_form {w : World} {B : Nat} {e : TypeId} {v : Value} {n : Nat} {xs : List Value} (h : w.ownsRow B e 1 v n xs) :
    ∃ a c, v = .slice a n c ∧ xs.length = n ∧ n ≤ c ∧ c ≤ maxLen := by
  obtain ⟨h1, h2⟩ := h
  rcases h2 with ⟨rfl, rfl⟩ | ⟨g, cap, cur, rfl, _, _, hc, hm, _, _⟩
  · exact ⟨none, 0, rfl, by simpa using h1, by omega, by unfold maxLen; omega⟩
  · exact ⟨_, cap, rfl, by simpa using h1, hc, hm⟩
theorem owns_open {w : World} {B : Nat} {e : TypeId} {v : Value} {n : Nat} {xs : List Value} (h : w.ownsRow B e 1 v n xs) (hn : 0 < n) :
    ∃ g c sp, v = .slice (some ⟨g, 0, none⟩) n c ∧ B ≤ g ∧ w.heap[g]? = some (.cells (xs ++ sp).toArray e (0, 0)) ∧ xs.length = n ∧ n + sp.length = c ∧ c ≤ maxLen := by
  obtain ⟨h1, h2⟩ := h
  rcases h2 with ⟨rfl, rfl⟩ | ⟨g, cap, cur, rfl, hB, hg, hc, hm, hs, ht⟩
  · omega
  · refine ⟨g, cap, cur.toList.drop n, rfl, hB, ?_, by simpa using h1, ?_, hm⟩
    · have : xs ++ cur.toList.drop n = cur.toList := by rw [← ht]; simp
      rw [this]; simpa using hg
    · simp; omega
theorem owns_mk {w : World} {B : Nat} {e : TypeId} {g n c : Nat} {xs sp : List Value} (hB : B ≤ g) (hg : w.heap[g]? = some (.cells (xs ++ sp).toArray e (0, 0))) (hx : xs.length = n)
    (hs : n + sp.length = c) (hc : c ≤ maxLen) : w.ownsRow B e 1 (.slice (some ⟨g, 0, none⟩) n c) n xs :=
  ⟨by omega, .inr ⟨g, c, _, rfl, hB, hg, by omega, hc, by simp; omega, by simp [← hx]⟩⟩
theorem cells_at {w : World} {g : Nat} {xs : List Value} {e : TypeId} (hg : w.heap[g]? = some (.cells xs.toArray e (0, 0))) (j : Nat) (h : j < xs.length) :
    w.cell? ⟨g, j, none⟩ = some xs[j] := by simp [World.cell?, hg, h]
theorem cells_free {w : World} {g : Nat} {xs : Array Value} {e : TypeId} (hg : w.heap[g]? = some (.cells xs e (0, 0))) (j : Nat) : w.frozen? ⟨g, j, none⟩ = false := by
  simp [World.frozen?, hg]
theorem cells_set {w : World} {g : Nat} {xs : List Value} {e : TypeId} (hg : w.heap[g]? = some (.cells xs.toArray e (0, 0))) (j : Nat) (u : Value) :
    (w.setCell ⟨g, j, none⟩ u).heap[g]? = some (.cells (xs.set j u).toArray e (0, 0)) := by
  simp [World.setCell, Array.getElem?_modify, hg]
theorem heap_new (w : World) (o : Obj) : (w.alloc o).heap[w.heap.size]? = some o := by show (w.heap.push o)[w.heap.size]? = _; simp
theorem owns_block {w : World} {B : Nat} {e : TypeId} {v : Value} {n : Nat} {xs : List Value} (h : w.ownsRow B e 1 v n xs) (k : Nat) (hk : v.ownBlock = some k) : B ≤ k := by
  obtain ⟨_, h2⟩ := h
  rcases h2 with ⟨rfl, rfl⟩ | ⟨g, cap, cur, rfl, hB, _⟩
  · cases hk
  · cases hk; exact hB
/-- behind an append of one new cell: below B nothing has turned -/
theorem below_app {B : Nat} {w wr w1 : World} {o : Obj} {e : TypeId} {v : Value} {n : Nat} {xs : List Value} (hb : Below B w wr) (hs : B ≤ wr.heap.size) (ho : wr.ownsRow B e 1 v n xs)
    (hg : (wr.alloc o).grownBy w1 v.ownBlock) : Below B w w1 ∧ B ≤ w1.heap.size :=
  ⟨(hb.alloc hs o).grown hg (by simp; omega) (fun k hk => owns_block ho k hk), by have := hg.size; simp at this; omega⟩
theorem ins_cells (l sp : List Value) (z u : Value) (q : Nat) (h : q ≤ l.length) :
    (splice (l ++ [z] ++ sp) (q + 1) (l.drop q)).set q u = l.take q ++ u :: l.drop q ++ sp := by
  have hq : q < (l ++ [z] ++ sp).length := by simp; omega
  have e1 : (l ++ [z] ++ sp).take (q + 1) = l.take q ++ [(l ++ [z] ++ sp)[q]] := by
    rw [List.take_succ_eq_append_getElem hq]; congr 1; rw [List.append_assoc, List.take_append_of_le_length h]
  have e2 : (l ++ [z] ++ sp).drop (q + 1 + (l.drop q).length) = sp := by
    apply List.drop_left'; simp; omega
  unfold splice
  rw [e1, e2, List.append_assoc, List.set_append_right _ _ (by simp; omega)]
  simp [Nat.min_eq_left h]
/-- a slice of bytes that came in: nil, or a row of readable bytes -/
def Sl (w : World) (a : Option Addr) (len cap : Nat) : Prop :=
  (a = none ∧ len = 0 ∧ cap = 0) ∨ ∃ b off, a = some ⟨b, off, none⟩ ∧ len ≤ cap ∧ cap ≤ maxLen ∧ b < w.heap.size ∧ ∀ i, i < len → ∃ z : UInt8, w.cell? ⟨b, off + i, none⟩ = some (.int .u8 (z.toNat : Int))
theorem Sl.below {w w' : World} {a : Option Addr} {len cap : Nat} (h : Sl w a len cap) (hb : Below w.heap.size w w') : Sl w' a len cap := by
  rcases h with h | ⟨b, off, h1, h2, h3, h4, h5⟩
  · exact .inl h
  · exact .inr ⟨b, off, h1, h2, h3, Nat.lt_of_lt_of_le h4 hb.size, fun i hi => by obtain ⟨z, hz⟩ := h5 i hi; exact ⟨z, by rw [hb.cell (p := ⟨b, off + i, none⟩) h4]; exact hz⟩⟩
theorem Sl.cap {w : World} {a : Option Addr} {len cap : Nat} (h : Sl w a len cap) : len ≤ cap ∧ cap ≤ maxLen := by
  rcases h with ⟨_, h2, h3⟩ | ⟨b, off, h1, h2, h3, _⟩
  · unfold maxLen; omega
  · exact ⟨h2, h3⟩
theorem Sl.take {w : World} {a : Option Addr} {len cap n : Nat} (h : Sl w a len cap) (hn : n ≤ len) : Sl w a n cap := by
  rcases h with ⟨h1, h2, h3⟩ | ⟨b, off, h1, h2, h3, h4, h5⟩
  · exact .inl ⟨h1, by omega, h3⟩
  · exact .inr ⟨b, off, h1, by omega, h3, h4, fun i hi => h5 i (by omega)⟩
def byts (l : List UInt8) : List Value := l.map fun c => .int .u8 (c.toNat : Int)
theorem byts_len (l : List UInt8) : (byts l).length = l.length := by simp [byts]
theorem byts_set (l : List UInt8) (j : Nat) (c : UInt8) : (byts l).set j (.int .u8 (c.toNat : Int)) = byts (l.set j c) := by simp [byts, List.map_set]
theorem made_byts (n : Nat) : madeCells #[.int .u8 0] n = (byts (List.replicate n 0)).toArray := by
  apply Array.ext (by simp [madeCells, byts])
  intro i h1 h2
  simp [madeCells, byts, Nat.mod_one]
end Go.Proofs.YtcelplibjhannaaDoor
