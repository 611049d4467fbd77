/- Walks of what the statements draw their bytes from: any text will do. -/
import Derived.Test.YtcelplibjhannaaDoorC
import Derived.Laws.MakeOwn
import Derived.Laws.IdiomStrings
import Derived.OpenShut
namespace Go.Proofs.YtcelplibjhannaaDoor
open Go.RowKit

/-- a slice of bytes that came in: without elements, or a row of readable bytes -/
def Slb (w : World) (a : Option Addr) (len cap : Nat) : Prop :=
  (True ∧ len = 0 ∧ cap ≤ maxLen) ∨ ∃ b off, a = some ⟨b, off, none⟩ ∧ len ≤ cap ∧ cap ≤ maxLen ∧ b < w.heap.size ∧ ∀ i, i < len → ∃ z : UInt8, w.cell? ⟨b, off + i, none⟩ = some (.int .u8 (z.toNat : Int))
theorem Slb.below {w w' : World} {a : Option Addr} {len cap : Nat} (h : Slb w a len cap) (hb : Below w.heap.size w w') : Slb w' a len cap := by
  rcases h with h | ⟨b, off, h1, h2, h3, h4, h5⟩
  · exact .inl h
  · exact .inr ⟨b, off, h1, h2, h3, Nat.lt_of_lt_of_le h4 hb.size, fun i hi => by obtain ⟨z, hz⟩ := h5 i hi; exact ⟨z, by rw [hb.cell (p := ⟨b, off + i, none⟩) h4]; exact hz⟩⟩
theorem Slb.cap {w : World} {a : Option Addr} {len cap : Nat} (h : Slb w a len cap) : len ≤ cap ∧ cap ≤ maxLen := by
  rcases h with ⟨_, h2, h3⟩ | ⟨b, off, h1, h2, h3, _⟩
  · exact ⟨by omega, h3⟩
  · exact ⟨h2, h3⟩
theorem Slb.take {w : World} {a : Option Addr} {len cap n : Nat} (h : Slb w a len cap) (hn : n ≤ len) : Slb w a n cap := by
  rcases h with ⟨h1, h2, h3⟩ | ⟨b, off, h1, h2, h3, h4, h5⟩
  · exact .inl ⟨h1, by omega, h3⟩
  · exact .inr ⟨b, off, h1, by omega, h3, h4, fun i hi => h5 i (by omega)⟩
/-- as the row's step tells it -/
theorem slb_of {w : World} {a : Option Addr} {len cap : Nat} {zs : List Int} (h : (a = none ∧ len = 0 ∧ cap = 0 ∧ zs = []) ∨
    ∃ x, a = some x ∧ len ≤ cap ∧ cap ≤ maxLen ∧ zs.length = cap ∧ (∀ i, i < zs.length → w.cell? (x.add i) = some (.int .u8 (zs.getD i 0))) ∧ ∀ n ∈ zs, (Lit.int .u8 n).wf = true) : Slb w a len cap := by
  rcases h with ⟨_, h2, h3, _⟩ | ⟨x, rfl, h2, h3, h4, h5, h6⟩
  · exact .inl ⟨trivial, h2, by rw [h3]; unfold maxLen; omega⟩
  · by_cases h0 : len = 0
    · exact .inl ⟨trivial, h0, h3⟩
    · obtain ⟨b, off, spot⟩ := x
      have hc := h5 0 (by omega)
      have hspot : spot = none := by simpa [Addr.add] using World.cell?_spot hc
      subst hspot
      have e : ∀ i, (⟨b, off, none⟩ : Addr).add i = ⟨b, off + i, none⟩ := fun i => by unfold Addr.add; split <;> simp_all
      refine .inr ⟨b, off, rfl, h2, h3, ?_, fun i hi => ?_⟩
      · rw [e] at hc
        unfold World.cell? at hc
        cases hb : w.heap[b]? with
        | none => simp only [hb] at hc; cases hc
        | some o => exact (Array.getElem?_eq_some_iff.1 hb).1
      · have h7 := h5 i (by omega)
        rw [e] at h7
        have h8 := h6 (zs.getD i 0) (by rw [List.getD_eq_getElem?_getD, List.getElem?_eq_getElem (by omega)]; exact List.getElem_mem _)
        obtain ⟨g0, g1⟩ := bounds_u8 h8
        refine ⟨UInt8.ofNat (zs.getD i 0).toNat, ?_⟩
        rw [h7]
        congr 2
        simp only [UInt8.toNat_ofNat']
        omega
theorem Tryd.infoByte : (Tryd.prog.info? 5).map (fun i => (i.zero, i.size, i.bytes)) = some (some (.int .u8 0), 1, 1) := by kernel_rfl
theorem idCut_any {a : Option Addr} {len cap : Nat} (w : World) (h : Slb w a len cap) :
    Calls Tryd.prog 9 #[.slice a len cap] w fun e w' => e = .returned (.slice a (min len 1000) cap) ∧ w = w' := by
  obtain ⟨hc, hm⟩ := h.cap
  unfold maxLen at hm
  have h1 : len < 1000 ∨ len = 1000 ∨ 1000 < len := by omega
  rcases h1 with h1 | rfl | h1
  · have h2 : min len 1000 = len := by omega
    rw [h2]
    go_enter Tryd.func9, Tryd.ntmps9
    go_wp2
    go_ret
    exact ⟨rfl, rfl⟩
  · go_enter Tryd.func9, Tryd.ntmps9
    go_wp2
    go_ret
    exact ⟨rfl, rfl⟩
  · have h2 : min len 1000 = 1000 := by omega
    rw [h2]
    have h3 : 1000 ≤ len := by omega
    have h4 : 1000 ≤ cap := by omega
    go_enter Tryd.func9, Tryd.ntmps9
    go_wp2
    go_ret
    exact ⟨rfl, rfl⟩
set_option maxHeartbeats 400000 in
theorem AnPlain_any {a : Option Addr} {len cap : Nat} (w : World) (h : Slb w a len cap) (hl : len ≤ 1000) :
    Calls Tryd.prog 8 #[.slice a len cap] w fun e w' => (∃ l : List UInt8, e = .returned (.string ⟨l.toArray⟩) ∧ l.length ≤ 1000) ∧ Below w.heap.size w w' := by
  obtain ⟨i0, hi, hz0, hz1, hz2⟩ := info_parts Tryd.infoByte
  by_cases h0 : len = 0
  · subst h0
    go_enter Tryd.func8, Tryd.ntmps8
    go_wp2
    go_ret
    exact ⟨⟨[97], rfl, by simp⟩, Below.refl _ _⟩
  · rcases h with ⟨_, h2, _⟩ | ⟨b, off, rfl, h2, h3, h4, h5⟩
    · omega
    · have hmk : ∀ w : World, (Instr.makeSlice 22 (.int .i64 (len : Int)) (.int .i64 (len : Int))).run Tryd.prog w = .ok (.slice (some ⟨w.heap.size, 0, none⟩) len len) (w.alloc (.cells (madeCells #[.int .u8 0] len) 5)) := by
        intro w
        have := run_make (P := Tryd.prog) w 22 5 i0 (.int .u8 0) Tryd.underlying22 hi hz0 .i64 .i64 (len : Int) (len : Int) (by omega) (by omega) (by rw [hz2]; omega) (by omega)
        simpa [hz1, Value.cells] using this
      have hne : ((len : Int) == 0) = false := by simp; omega
      go_enter Tryd.func8, Tryd.ntmps8
      go_wp2
      go_loopw [14] (fun iv wr => ∃ (k : Nat) (l : List UInt8), iv = .int .i64 k ∧ k ≤ len ∧ l.length = len ∧ wr.heap[w.heap.size]? = some (.cells (byts l).toArray 5 (0, 0)) ∧ Below w.heap.size w wr) (fun iv _ => len - (intOf iv).toNat)
      case atStart => exact ⟨0, List.replicate len 0, rfl, by omega, by simp, by rw [made_byts]; exact heap_new _ _, (Below.refl _ _).alloc (Nat.le_refl _) _⟩
      case round =>
        obtain ⟨k, l, rfl, hk, hll, hg, hbel⟩ := hrel
        by_cases hlt : k < len
        · obtain ⟨z, hz⟩ := h5 k hlt
          have hcell : wr.cell? ⟨b, off + k, none⟩ = some (.int .u8 (z.toNat : Int)) := by rw [hbel.cell (p := ⟨b, off + k, none⟩) h4]; exact hz
          clear hz
          obtain ⟨cv, hold⟩ : ∃ cv, wr.cell? ⟨w.heap.size, k, none⟩ = some cv := ⟨_, cells_at hg k (by simp [byts]; omega)⟩
          have hfree := cells_free hg k
          have hset := Lib.hid (fun u => cells_set hg k u)
          have HLL := Lib.hid hll
          have hz1 : (z.toNat : Int) ≤ 255 := by have := z.toNat_lt; omega
          have hz2 : 0 ≤ (z.toNat : Int) % 63 := by omega
          have hz3 : (z.toNat : Int) % 63 < 63 := by omega
          clear hg hll h5 hmk
          go_wp2
          go_roundw
          case rel => exact ⟨k + 1, l.set k _, by go_num, by omega, by simp [HLL.out], by rw [hset.out, byts_set], hbel.setCell (Nat.le_refl _) _⟩
          case measure => simp [intOf]; omega
        · obtain rfl : k = len := by omega
          have hcv : (convert 22 9 (.slice (some ⟨w.heap.size, 0, none⟩) k k)).run Tryd.prog wr = .ok (.string ⟨l.toArray⟩) wr := by
            rw [← hll]
            refine run_convert_bytes_back wr 22 9 5 ⟨w.heap.size, 0, none⟩ l.length l Tryd.underlying22 Tryd.underlying5 Tryd.underlying9 (fun j hj => ?_)
            have := cells_at hg j (by simp [byts]; exact hj)
            rw [show ((⟨w.heap.size, 0, none⟩ : Addr).add j) = ⟨w.heap.size, j, none⟩ from by unfold Addr.add; split <;> simp_all, this]
            simp [byts]
          clear h5 hmk hg
          go_wp2
          go_ret
          exact ⟨⟨l, rfl, by omega⟩, hbel⟩
set_option maxHeartbeats 400000 in
theorem idPuny_any {a0 a1 : Option Addr} {len0 cap0 len1 cap1 : Nat} (w : World) (h0 : Slb w a0 len0 cap0) (h1 : Slb w a1 len1 cap1) :
    Calls Tryd.prog 4 #[.slice a0 len0 cap0, .slice a1 len1 cap1] w fun e w' => (∃ l : List UInt8, e = .returned (.string ⟨l.toArray⟩) ∧ l.length ≤ 3000) ∧ Below w.heap.size w w' := by
  have hp0 : Hid (Slb w a0 (min len0 1000) cap0) := h0.take (by omega)
  have m0 := h0.cap
  have m1 := h1.cap
  unfold maxLen at m0 m1
  obtain ⟨m2, m3⟩ := m0
  obtain ⟨m4, m5⟩ := m1
  have H0 := Lib.hid h0; have H1 := Lib.hid h1; clear h0 h1
  obtain ⟨n1, hn1⟩ : ∃ n, min len1 1000 = n := ⟨_, rfl⟩
  have n1a : n1 ≤ 1000 := by omega
  have n1b : n1 ≤ len1 := by omega
  have HN1 := Lib.hid hn1; clear hn1
  by_cases hz : len0 = 0
  · subst hz
    have HS := H1
    go_enter Tryd.func4, Tryd.ntmps4
    go_wp2_with (first | (go_at_call 9; refine (idCut_any _ H1.out).mono ?_; rintro e w' ⟨rfl, rfl⟩; rw [HN1.out]))
    go_loop [5, 18] (fun tv iv => ∃ (k : Nat) (l : List UInt8), tv = .string ⟨l.toArray⟩ ∧ iv = .int .i64 k ∧ k ≤ n1 ∧ l.length ≤ 1001 + k) (fun _ iv => n1 - (intOf iv).toNat)
    case atStart => exact ⟨0, [], rfl, rfl, by omega, by simp⟩
    case round =>
      obtain ⟨k, l, rfl, rfl, hk, hl⟩ := hrel
      by_cases hlt : k < n1
      · rcases HS.out with ⟨_, h2, _⟩ | ⟨b, off, rfl, h2, h3, h4, h5⟩
        · omega
        · obtain ⟨z, hcell⟩ := h5 k (by omega)
          have hz1 : (z.toNat : Int) ≤ 255 := by have := z.toNat_lt; omega
          have hz2 : 0 ≤ (z.toNat : Int) % 36 := by omega
          have hz3 : (z.toNat : Int) % 36 < 36 := by omega
          clear h5
          go_wp2
          go_round
          case rel => exact ⟨k + 1, _, rfl, by go_num, by omega, by simp only [List.length_append, List.length_drop, List.length_cons, List.length_take, List.length_nil]; omega⟩
          case measure => simp [intOf]; omega
      · obtain rfl : k = n1 := by omega
        go_wp2
        go_ret
        exact ⟨⟨l, rfl, by omega⟩, Below.refl _ _⟩
  · obtain ⟨n0, hn0⟩ : ∃ n, min len0 1000 = n := ⟨_, rfl⟩
    have n0a : n0 ≤ 1000 := by omega
    have n0b : 0 < n0 := by omega
    have hp : (0 : Int) < (len0 : Int) := by omega
    rw [hn0] at hp0
    have HN0 := Lib.hid hn0; clear hn0
    go_enter Tryd.func4, Tryd.ntmps4
    go_wp2_with (first | (go_at_call 9; refine (idCut_any _ H0.out).mono ?_; rintro e w' ⟨rfl, rfl⟩; rw [HN0.out]))
    refine (AnPlain_any _ hp0.out n0a).mono ?_
    rintro e w1 ⟨⟨t, rfl, ht⟩, hbel⟩
    have HS : Hid (Slb w1 a1 len1 cap1) := Slb.below H1.out hbel
    have HB := Lib.hid hbel; clear hbel
    go_wp2_with (first | (go_at_call 9; refine (idCut_any _ HS.out).mono ?_; rintro e w' ⟨rfl, rfl⟩; rw [HN1.out]))
    go_loop [5, 18] (fun tv iv => ∃ (k : Nat) (l : List UInt8), tv = .string ⟨l.toArray⟩ ∧ iv = .int .i64 k ∧ k ≤ n1 ∧ l.length ≤ 1001 + k) (fun _ iv => n1 - (intOf iv).toNat)
    case atStart => exact ⟨0, t ++ [95], rfl, rfl, by omega, by simp; omega⟩
    case round =>
      obtain ⟨k, l, rfl, rfl, hk, hl⟩ := hrel
      by_cases hlt : k < n1
      · rcases HS.out with ⟨_, h2, _⟩ | ⟨b, off, rfl, h2, h3, h4, h5⟩
        · omega
        · obtain ⟨z, hcell⟩ := h5 k (by omega)
          have hz1 : (z.toNat : Int) ≤ 255 := by have := z.toNat_lt; omega
          have hz2 : 0 ≤ (z.toNat : Int) % 36 := by omega
          have hz3 : (z.toNat : Int) % 36 < 36 := by omega
          clear h5
          go_wp2
          go_round
          case rel => exact ⟨k + 1, _, rfl, by go_num, by omega, by simp only [List.length_append, List.length_drop, List.length_cons, List.length_take, List.length_nil]; omega⟩
          case measure => simp [intOf]; omega
      · obtain rfl : k = n1 := by omega
        go_wp2
        go_ret
        exact ⟨⟨l, rfl, by omega⟩, HB.out⟩
end Go.Proofs.YtcelplibjhannaaDoor
