/- The walks of the reader's writing. -/
import Derived.Test.YtcelplibjhannaaDoorS
import Derived.Test.YtcelplibjhannaaDoorD
import Derived.OwnWalk
import Derived.Lib.AppendStr
import Derived.Lib.Builder
namespace Go.Proofs.YtcelplibjhannaaDoor
open Go.RowKit

/-- the state stands in block p; the builder knows where it lies -/
def RAtA (w : World) (p : Nat) (st : RS) (addr : Option Addr) (sl : Value) : Prop :=
  w.heap[p]? = some (.cells (rcells st addr sl).toArray 66 (0, 0)) ∧ (st.out = [] → sl = .slice none 0 0) ∧ w.ownsRow (p + 1) 5 1 sl st.out.length (byts st.out)
theorem infoBld : ∃ j, Tryd.prog.info? 64 = some j ∧ j.size ≠ 0 := by
  have h : (Tryd.prog.info? 64).map (fun j => j.size) = some 2 := by kernel_rfl
  obtain ⟨j, h1, h2⟩ := Option.map_eq_some_iff.1 h
  exact ⟨j, h1, by omega⟩
theorem liesBld : liesAt Tryd.prog Tryd.prog.depth 66 (10 / Tryd.prog.cellsOf 66) 3 64 1 = true := by kernel_rfl
set_option maxRecDepth 100000 in
set_option maxHeartbeats 1000000 in
theorem copyCheck_any {w : World} {p : Nat} {st : RS} (hR : RAt w p st) :
    Calls Tryd.prog 62 #[.pointer (some ⟨p, 3, none⟩)] w fun e w' => e = .returned (.tuple #[]) ∧ ∃ sl, RAtA w p st none sl ∧ w' = w.setCell ⟨p, 3, none⟩ (.pointer (some ⟨p, 3, none⟩)) ∨ RAtA w p st (some ⟨p, 3, none⟩) sl ∧ w' = w := by
  obtain ⟨addr, sl, hb, ha, hn, ho⟩ := hR
  rcases ha with rfl | rfl
  · have hc : w.cell? ⟨p, 3, none⟩ = some (.pointer none) := cells_at hb 3 (by simp [rcells])
    have hf := cells_free hb 3
    have hsh : w.shape? p = some (66, 10) := by simp [World.shape?, hb, rcells]
    obtain ⟨j, hj, hj0⟩ := infoBld
    have hto := Lib.run_to_unsafe (P := Tryd.prog) (w := w) ⟨p, 3, none⟩ Tryd.underlying62 Tryd.underlying99 hj hj0 hsh (by simp)
    have hfrom := Lib.run_from_unsafe (P := Tryd.prog) (w := w) ⟨p, 3, none⟩ Tryd.underlying99 Tryd.underlying62 hj hsh liesBld
    have hext : (callFunc 77 #[.pointer (some ⟨p, 3, none⟩)]).run Tryd.prog w = .ok (.value (.pointer (some ⟨p, 3, none⟩))) w := by
      rw [run_callFunc_extern Tryd.func77 (by kernel_rfl) (by kernel_rfl) (by kernel_rfl) (e := Extern.AbiNoEscape.same) (by kernel_rfl)]; rfl
    have HB := Lib.hid hb
    clear hb
    go_enter Tryd.func62, Tryd.ntmps62
    go_wp2
    go_end0
    exact ⟨rfl, sl, .inl ⟨⟨HB.out, hn, ho⟩, rfl⟩⟩
  · have hc : w.cell? ⟨p, 3, none⟩ = some (.pointer (some ⟨p, 3, none⟩)) := cells_at hb 3 (by simp [rcells])
    obtain ⟨j, hj, _⟩ := infoBld
    have hne := Lib.run_neq_ptr_same (P := Tryd.prog) w ⟨p, 3, none⟩ Tryd.underlying62 hj
    have HB := Lib.hid hb
    clear hb
    go_enter Tryd.func62, Tryd.ntmps62
    go_wp2
    go_end0
    exact ⟨rfl, sl, .inr ⟨⟨HB.out, hn, ho⟩, rfl⟩⟩
/-- where the row lies behind an append of a string: where it lay, or it is new -/
theorem appended_block {P : Program} {w w' : World} {base t u ty e n : Nat} {i : TypeInfo} {v v' : Value} {xs : List Value} {s : ByteArray} (ht : P.underlying t = some (.slice e)) (hu : P.underlying u = some .string) (hi : P.info? e = some i) (hz : i.zero = some (.int .u8 0))
    (hsize : i.size = 1) (hby : i.bytes = 1) (hown : w.ownsRow base e 1 v n xs) (h63 : n + s.size ≤ maxLen) (hbytes : n + s.size ≤ 140737488355328)
    (hr : (Builtin.append_ #[t, u] ty #[v, .string s]).run P w = .ok v' w') : v'.ownBlock = v.ownBlock ∨ v'.ownBlock = some w.heap.size := by
  have hxl : xs.length = n := by simpa using hown.1
  have hm := h63
  simp only [maxLen] at hm
  rcases hown.2 with ⟨rfl, rfl⟩ | ⟨g, cap, cur, rfl, hbg, hg, hnc, hcm, hcs, htake⟩
  · by_cases hs : s.size = 0
    · left
      have hf := Lib.run_firstCells_string (P := P) w 1 s
      rw [hs] at hf
      simp [Builtin.append_, run_underlying ht, run_underlying hu, sizeOf, typeInfo, hi, hsize, Builtin.lenOf, hs, hf] at hr
      rw [← hr.1]
    · right
      have hr2 := run_append_nil_string (P := P) w t u ty e i (.int .u8 0) ht hu hi hz s (by omega) (by omega) (by rw [hby]; omega)
      rw [hr2] at hr
      cases hr
      rfl
  · by_cases hroom : n + s.size ≤ cap
    · left
      have hr2 := Lib.run_append_room_string (P := P) w t u ty e i ht hu hi hsize g n cap cur hg s hroom (by simp at hcs; omega)
      rw [hr2] at hr
      cases hr
      rfl
    · right
      have holds : ∀ j u, xs[j]? = some u → w.cell? ((⟨g, 0, none⟩ : Addr).add j) = some u := hown.cells (g := g) rfl
      have hr2 := Lib.run_append_grow_string (P := P) w t u ty e i (.int .u8 0) ht hu hi hz ⟨g, 0, none⟩ n cap xs (by rw [hsize]; simpa using hxl) holds s (by omega) (by omega) (by rw [hby]; exact growslice_fits (by omega) (by omega))
      rw [hr2] at hr
      cases hr
      rfl
/-- the operation, for the walk, with the row's place -/
theorem wpList_append_string2 {P : Program} {ops : Array Oper} {rest : List Oper} {o : Oper} {a : Act} {w : World} {Q : Exit → Act → World → Prop} (hgd : o.guard = none) (sl x : Operand) (t u : TypeId)
    (ho : o.op = .call { callee := .builtin .append, args := #[sl, x], argTypes := #[t, u] })
    (base : Nat) (e : TypeId) (i : TypeInfo) (ht : P.underlying t = some (.slice e)) (hu : P.underlying u = some .string) (hi : P.info? e = some i) (hz : i.zero = some (.int .u8 0))
    (hsize : i.size = 1) (hby : i.bytes = 1)
    (v : Value) (n : Nat) (xs : List Value) (hs : a.eval sl = v) (hown : w.ownsRow base e 1 v n xs) (s : ByteArray) (hx : a.eval x = .string s)
    (h63 : n + s.size ≤ maxLen) (hbytes : n + s.size ≤ 140737488355328) (hbase : base ≤ w.heap.size)
    (h : ∀ v' w', w'.ownsRow base e 1 v' (n + s.size) (xs ++ Lib.strCells s) → w.grownBy w' v.ownBlock → (v' = .slice none 0 0 ↔ v = .slice none 0 0 ∧ s.size = 0) → (v'.ownBlock = v.ownBlock ∨ v'.ownBlock = some w.heap.size) → wpList P ops Q rest (a.put o.dst v') w') : wpList P ops Q (o :: rest) a w := by
  refine wpList_plain hgd fun K hK => ?_
  obtain ⟨v', w', hr, h2, h3, h4⟩ := Lib.run_append_own_string (P := P) w base t u o.type e i ht hu hi hz hsize hby v n xs hown s h63 hbytes hbase
  have h5 := appended_block ht hu hi hz hsize hby hown h63 hbytes hr
  unfold Oper.wp execOp
  simp only [ho, resolve, invoke, builtin, Sem.run_bind, Sem.run_pure, Result.andThen_ok, List.map_toArray, List.map_cons, List.map_nil, hs, hx, hr]
  exact hK _ _ (h v' w' h2 h3 h4 h5)
theorem size_list (l : List UInt8) : (⟨l.toArray⟩ : ByteArray).size = l.length := by simp [ByteArray.size]
theorem copyCheck2 {w : World} {p : Nat} {st : RS} (hR : RAt w p st) :
    Calls Tryd.prog 62 #[.pointer (some ⟨p, 3, none⟩)] w fun e w' => e = .returned (.tuple #[]) ∧ ∃ sl, RAtA w' p st (some ⟨p, 3, none⟩) sl ∧ Upd p w w' :=
  (copyCheck_any hR).mono fun e w' ⟨he, sl, h⟩ => by
    rcases h with ⟨⟨h1, h2, h3⟩, rfl⟩ | ⟨h1, rfl⟩
    · exact ⟨he, sl, ⟨by rw [cells_set h1]; rfl, h2, ownsRow_setCell_below h3 (by simp) _⟩, (Upd.refl p w).set 3 _ (by omega)⟩
    · exact ⟨he, sl, h1, Upd.refl p _⟩
set_option maxRecDepth 100000 in
set_option maxHeartbeats 1000000 in
theorem bWrite_any {w : World} {p : Nat} {st : RS} {s : List UInt8} (hR : RAt w p st) (hl : st.out.length + s.length ≤ 70368744177664) :
    Calls Tryd.prog 46 #[.pointer (some ⟨p, 3, none⟩), .string ⟨s.toArray⟩] w fun e w' => (∃ n, e = .returned (.tuple #[.int .i64 n, .nilIface])) ∧ RAt w' p { st with out := st.out ++ s } ∧ Upd p w w' := by
  obtain ⟨i0, hi, hz0, hz1, hz2⟩ := info_parts Tryd.infoByte
  go_enter Tryd.func46, Tryd.ntmps46
  go_wp2_with (first | (go_at_call 62; refine (copyCheck2 hR).mono ?_; rintro e w1 ⟨rfl, sl, ⟨h1, h2, h3⟩, hU⟩; have c4 : w1.cell? ⟨p, 4, none⟩ = some sl := cells_at h1 4 (by simp [rcells]); have hsz := hU.size; have hlt := hR.lt; have H1 := Lib.hid h1; have HU := Lib.hid hU; have H3 := Lib.hid h3; have H2 := Lib.hid h2; clear h1 hU h3 h2) | (at_builtin; refine wpList_append_string2 rfl _ _ 22 9 rfl (p + 1) 5 i0 Tryd.underlying22 Tryd.underlying9 hi hz0 hz1 hz2 _ st.out.length (byts st.out) rfl H3.out ⟨s.toArray⟩ rfl ?c1 ?c2 ?c3 ?_))
  case c1 => rw [size_list]; unfold maxLen; omega
  case c2 => rw [size_list]; omega
  case c3 => omega
  intro v' w2 hown' hgrow hiff hwhere
  have hnb : sl.ownBlock ≠ some p := fun h => by have := owns_block H3.out p h; omega
  have H1b : w2.heap[p]? = some (.cells (rcells st (some ⟨p, 3, none⟩) sl).toArray 66 (0, 0)) := by rw [hgrow.block p (by omega) (Ne.symm hnb)]; exact H1.out
  have c4b : w2.cell? ⟨p, 4, none⟩ = some sl := cells_at H1b 4 (by simp [rcells])
  have f4b : w2.frozen? ⟨p, 4, none⟩ = false := cells_free H1b 4
  obtain ⟨ao, n, cap, rfl⟩ : ∃ ao n cap, v' = .slice ao n cap := by
    rcases hown'.2 with ⟨hv, _⟩ | ⟨g, cap, cur, hv, _⟩
    · exact ⟨none, 0, 0, hv⟩
    · exact ⟨_, _, _, hv⟩
  have HG := Lib.hid hgrow
  have HO := Lib.hid hown'
  have HI := Lib.hid hiff
  have HB := Lib.hid H1b
  have HW := Lib.hid hwhere
  clear hgrow hown' hiff hwhere H1b
  go_wp2
  go_ret2
  have hby : byts (st.out ++ s) = byts st.out ++ Lib.strCells ⟨s.toArray⟩ := by simp [byts, Lib.strCells]
  refine ⟨⟨_, rfl⟩, ⟨some ⟨p, 3, none⟩, .slice ao n cap, ?_, .inr rfl, ?_, ?_⟩, ?_⟩
  · rw [cells_set HB.out]; rfl
  · intro h
    have h' : st.out = [] ∧ s = [] := by simpa using h
    exact HI.out.2 ⟨H2.out h'.1, h'.2⟩
  · rw [List.length_append, hby]; exact ownsRow_setCell_below HO.out (by simp) _
  · have b1 : bufOf w1 p = sl.ownBlock := by unfold bufOf; rw [H1.out]; rfl
    have b2 : bufOf (w2.setCell ⟨p, 4, none⟩ (.slice ao n cap)) p = (Value.slice ao n cap).ownBlock := by unfold bufOf; rw [cells_set HB.out]; rfl
    refine HU.out.trans ⟨HG.out.os, HG.out.tape, HG.out.output, by simp [World.setCell]; exact HG.out.size, fun k h1 h2 h3 => ?_, fun k hk => ?_⟩
    · rw [Below.heap_setCell _ _ _ _ h2]; exact HG.out.block k h1 (fun h => h3 (by rw [b1, ← h]))
    · rw [b2] at hk
      rcases HW.out with h | h
      · exact .inl (by rw [b1, ← h]; exact hk)
      · rw [h] at hk; exact .inr (by cases hk; exact Nat.le_refl _)
end Go.Proofs.YtcelplibjhannaaDoor
