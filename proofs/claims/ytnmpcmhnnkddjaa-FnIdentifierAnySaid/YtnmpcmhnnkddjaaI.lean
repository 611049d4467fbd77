/- Walks of the door to identifiers, and of its statement. -/
import Derived.Test.YtnmpcmhnnkddjaaH
namespace Go.Proofs.Ytnmpcmhnnkddjaa
open Go.RowKit

theorem Keep.toBelow {w w' : World} (h : Keep [] w w') : Below w.heap.size w w' := h.below (by simp) (Nat.le_refl _)
theorem zzId_ok {w : World} {l t r : List UInt8} {d : Int} (hl : l.length ≤ 2147483648) (hx : Hid (idN l = some (some (d, t, r)))) :
    Calls Try.prog 18 #[.string ⟨l.toArray⟩] w fun e w' => e = .returned (.tuple #[.int .i64 d, .string ⟨t.toArray⟩, .string ⟨r.toArray⟩, .nilIface]) ∧ Below w.heap.size w w' := by
  have hmf : ∀ (fn : Fn) (first cap : Array Value) (w : World), (Instr.makeFunc fn first cap).run Try.prog w = .ok (.func fn first cap) w := fun _ _ _ _ => rfl
  go_enter Try.func18, Try.ntmps18
  go_wp2_with fail
  refine Calls.mono (zzRun_id_ok (v0 := .int .i64 0) (v1 := .string ⟨#[]⟩) ?_ ?_ ?_ ?_ (by omega) hl hx) ?_
  · go_simp
  · go_simp
  · go_simp
  · simp
  rintro e w1 ⟨rfl, cd, ci, gd, gi, hk⟩
  have hb : Below w.heap.size w w1 := ((((Below.refl w.heap.size w).alloc (Nat.le_refl _) _).alloc (by simp) _).trans (hk.below (by simp) (by simp; omega)))
  have HB := Lib.hid hb
  clear hb hk
  go_wp2
  go_region
  all_goals go_wp2
  all_goals simp [bodyPost, results, Try.results18, go_sem, cd, ci]
  all_goals exact ((HB.out.setCell (Nat.le_refl _) _).setCell (by simp) _).drew
theorem zzId_bad {w : World} {l : List UInt8} (hl : l.length ≤ 2147483648) (hx : Hid (idN l = some none)) :
    Calls Try.prog 18 #[.string ⟨l.toArray⟩] w fun e w' => (∃ y m o, e = .returned (.tuple #[.int .i64 0, .string ⟨#[]⟩, .string y, .iface 64 (.agg #[.string m, .int .i64 o])])) ∧ Below w.heap.size w w' := by
  have hmf : ∀ (fn : Fn) (first cap : Array Value) (w : World), (Instr.makeFunc fn first cap).run Try.prog w = .ok (.func fn first cap) w := fun _ _ _ _ => rfl
  go_enter Try.func18, Try.ntmps18
  go_wp2_with fail
  refine Calls.mono (zzRun_id_bad hl hx) ?_
  rintro e w1 ⟨⟨m, o, rfl⟩, hk⟩
  have hb : Below w.heap.size w w1 := ((((Below.refl w.heap.size w).alloc (Nat.le_refl _) _).alloc (by simp) _).trans (hk.below (by simp) (by simp; omega)))
  have HB := Lib.hid hb
  have cd : w1.cell? ⟨w.heap.size, 0, none⟩ = some (.int .i64 0) := hk.cell (by go_simp) (by simp)
  have ci : w1.cell? ⟨w.heap.size + 1, 0, none⟩ = some (.string ⟨#[]⟩) := hk.cell (by simp [go_sem]) (by simp)
  have gd : w1.frozen? ⟨w.heap.size, 0, none⟩ = false := (hk.free (by simp <;> omega) (by simp)).trans (by simp [go_sem])
  have gi : w1.frozen? ⟨w.heap.size + 1, 0, none⟩ = false := (hk.free (by simp <;> omega) (by simp)).trans (by simp [go_sem])
  clear hb hk
  go_upto_region 4 with fail
  have cd2 : ((w1.setCell ⟨w.heap.size, 0, none⟩ (.int .i64 0)).setCell ⟨w.heap.size + 1, 0, none⟩ (.string ⟨#[]⟩)).cell? ⟨w.heap.size, 0, none⟩ = some (.int .i64 0) := by go_simp
  have ci2 : ((w1.setCell ⟨w.heap.size, 0, none⟩ (.int .i64 0)).setCell ⟨w.heap.size + 1, 0, none⟩ (.string ⟨#[]⟩)).cell? ⟨w.heap.size + 1, 0, none⟩ = some (.string ⟨#[]⟩) := by go_simp
  have gd2 : ((w1.setCell ⟨w.heap.size, 0, none⟩ (.int .i64 0)).setCell ⟨w.heap.size + 1, 0, none⟩ (.string ⟨#[]⟩)).frozen? ⟨w.heap.size, 0, none⟩ = false := by go_simp
  have gi2 : ((w1.setCell ⟨w.heap.size, 0, none⟩ (.int .i64 0)).setCell ⟨w.heap.size + 1, 0, none⟩ (.string ⟨#[]⟩)).frozen? ⟨w.heap.size + 1, 0, none⟩ = false := by go_simp
  have HB2 := Lib.hid ((HB.out.setCell (p := ⟨w.heap.size, 0, none⟩) (Nat.le_refl _) (.int .i64 0)).setCell (p := ⟨w.heap.size + 1, 0, none⟩) (by simp) (.string ⟨#[]⟩))
  generalize (w1.setCell ⟨w.heap.size, 0, none⟩ (.int .i64 0)).setCell ⟨w.heap.size + 1, 0, none⟩ (.string ⟨#[]⟩) = w2 at *
  go_region
  all_goals go_wp2
  all_goals simp [bodyPost, results, Try.results18, go_sem, cd2, ci2]
  all_goals exact ((HB2.out.setCell (Nat.le_refl _) _).setCell (by simp) _).drew
theorem identifier_ok {w : World} {l t r : List UInt8} {d : Int} (hl : l.length ≤ 2147483648) (hx : Hid (idN l = some (some (d, t, r)))) :
    Calls Try.prog 10 #[.string ⟨l.toArray⟩] w fun e w' => e = .returned (.tuple #[.int .i64 d, .string ⟨t.toArray⟩, .string ⟨r.toArray⟩, .bool true]) ∧ Below w.heap.size w w' := by
  go_enter Try.func10, Try.ntmps10
  go_wp2_with (go_at_call 18; refine (zzId_ok hl hx).mono ?_; rintro e w1 ⟨rfl, hb⟩; have HB := Lib.hid hb; clear hb)
  ((try simp only [Exit.inBlock, Exit.then]); refine bodyPost_ret (results_tmp4 rfl _ _ _) rfl ?_)
  exact ⟨rfl, HB.out⟩
theorem identifier_bad {w : World} {l : List UInt8} (hl : l.length ≤ 2147483648) (hx : Hid (idN l = some none)) :
    Calls Try.prog 10 #[.string ⟨l.toArray⟩] w fun e w' => e = .returned (.tuple #[.int .i64 0, .string ⟨#[]⟩, .string ⟨#[]⟩, .bool false]) ∧ Below w.heap.size w w' := by
  go_enter Try.func10, Try.ntmps10
  go_wp2_with (go_at_call 18; refine (zzId_bad hl hx).mono ?_; rintro e w1 ⟨⟨y, m, o, rfl⟩, hb⟩; have HB := Lib.hid hb; clear hb)
  ((try simp only [Exit.inBlock, Exit.then]); refine bodyPost_ret (results_tmp4 rfl _ _ _) rfl ?_)
  exact ⟨rfl, HB.out⟩
theorem doorIdent_ok {w : World} {l t r : List UInt8} {d : Int} (hl : l.length ≤ 2147483648) (hx : Hid (idN l = some (some (d, t, r)))) :
    Calls Try.prog 9 #[.string ⟨l.toArray⟩, .int .i64 d, .string ⟨t.toArray⟩, .string ⟨r.toArray⟩] w fun e w' => e = .returned (.bool true) ∧ Below w.heap.size w w' := by
  go_enter Try.func9, Try.ntmps9
  go_wp2_with (go_at_call 10; refine (identifier_ok hl hx).mono ?_; rintro e w1 ⟨rfl, hb⟩; have HB := Lib.hid hb; clear hb)
  go_ret
  exact ⟨by simp, HB.out⟩
theorem one_a : idN [49, 97] = some (some (0, [97], [])) := by decide +kernel
end Go.Proofs.Ytnmpcmhnnkddjaa
