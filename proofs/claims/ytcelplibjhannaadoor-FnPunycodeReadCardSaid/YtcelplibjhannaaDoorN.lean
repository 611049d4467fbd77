/- Runes of plain text, the last underscore: what the library's words say here (no program). -/
import Derived.Test.YtcelplibjhannaaDoorMem
import Derived.Laws.IdiomStrings
import Derived.Lib.LastIndexByte
import Derived.Lib.Small
namespace Go.Proofs.YtcelplibjhannaaDoor
open Go.RowKit

theorem plain_lt {c : UInt8} (h : isPlain c = true) : c.toNat < 128 := by
  simp [isPlain, isDig, isLet] at h; omega
theorem lastIdx_cut (l : List UInt8) : ∀ k, k ≤ l.length → Lib.lastIdx ⟨l.toArray⟩ 95 k = cutTo l k
  | 0, _ => rfl
  | k + 1, h => by
    unfold Lib.lastIdx cutTo
    rw [lastIdx_cut l k (by omega)]
    have e : (⟨l.toArray⟩ : ByteArray).data[k]! = l[k] := by simp [getElem!_pos, show k < l.length by omega]
    rw [e, List.getElem?_eq_getElem (by omega)]
    by_cases hc : l[k] = 95
    · rw [if_pos ((c95 _).2 hc), if_pos (by rw [hc])]
    · rw [if_neg (fun h => hc ((c95 _).1 h)), if_neg (fun h => hc (Option.some.inj h))]
theorem lastIndex_cut (l : List UInt8) : Lib.lastIndexByte ⟨l.toArray⟩ 95 = cutOf l := lastIdx_cut l l.length (Nat.le_refl _)
theorem decode_ascii (l : List UInt8) (i : Nat) (h : i < l.length) (ha : l[i].toNat < 128) : Utf8.decode ⟨l.toArray⟩ i = (l[i].toNat, 1) := by
  have e : (⟨l.toArray⟩ : ByteArray).get! (i + 0) = l[i] := by simp [ByteArray.get!, getElem!_pos, h]
  unfold Utf8.decode
  simp only [e]
  rw [if_pos (by omega)]
def runes (l : List Int) : List Value := l.map (Value.int .i32)
theorem runesFrom_plain (l : List UInt8) (ha : ∀ c ∈ l, c.toNat < 128) : ∀ (n i : Nat) (acc : Array Value), i + n = l.length →
    Conv.runesFrom ⟨l.toArray⟩ n i acc = acc ++ (runes (chars (l.drop i))).toArray
  | 0, i, acc, h => by
    unfold Conv.runesFrom
    rw [List.drop_of_length_le (by omega)]; simp [runes, chars]
  | n + 1, i, acc, h => by
    unfold Conv.runesFrom
    have hi : i < l.length := by omega
    rw [if_pos (show i < (⟨l.toArray⟩ : ByteArray).size from hi), decode_ascii l i hi (ha _ (List.getElem_mem hi))]
    simp only
    rw [runesFrom_plain l ha n (i + 1) _ (by omega), List.drop_eq_getElem_cons hi]
    apply Array.ext'
    simp only [Array.toList_append, Array.toList_push, runes, chars, List.map_cons, List.append_assoc, List.cons_append, List.nil_append]
    rfl
theorem runes_plain (l : List UInt8) (ha : ∀ c ∈ l, c.toNat < 128) : Conv.runesFrom ⟨l.toArray⟩ (⟨l.toArray⟩ : ByteArray).size 0 #[] = (runes (chars l)).toArray := by
  rw [show (⟨l.toArray⟩ : ByteArray).size = l.length from rfl, runesFrom_plain l ha l.length 0 #[] (by omega)]; simp
theorem validRune_scalar {n : Int} (h : 128 ≤ n) : Lib.validRune n = scalar n := by
  unfold Lib.validRune scalar
  by_cases a : n < 55296 <;> by_cases b : 57343 < n <;> by_cases c : n ≤ 1114111 <;> simp [a, b, c] <;> omega
theorem runes_length (l : List Int) : (runes l).length = l.length := by simp [runes]
theorem conv_runes {P : Program} {w : World} {B src dst e : Nat} {v : Value} {l : List Int} (hs : P.underlying src = some (.slice e)) (he : P.underlying e = some (.int .i32)) (hd : P.underlying dst = some .string)
    (ho : w.ownsRow B e 1 v l.length (runes l)) : (convert src dst v).run P w = .ok (.string (runesBytes l)) w := by
  by_cases h0 : 0 < l.length
  · obtain ⟨g, c, sp, rfl, _, hg, _, _, _⟩ := owns_open ho h0
    have := run_convert_runes (P := P) w src dst e ⟨g, 0, none⟩ l.length c l (Nat.le_refl _) hs he hd (fun j hj => by
      have h1 := cells_at hg j (by simp [runes]; omega)
      rw [show ((⟨g, 0, none⟩ : Addr).add j) = ⟨g, j, none⟩ from by unfold Addr.add; split <;> simp_all, h1]
      rw [List.getElem_append_left (by simp [runes]; exact hj)]
      simp [runes, List.getD, List.getElem?_eq_getElem hj])
    rw [List.take_length] at this; exact this
  · obtain rfl : l = [] := List.eq_nil_of_length_eq_zero (by omega)
    obtain ⟨_, h2⟩ := ho
    rcases h2 with ⟨rfl, _⟩ | ⟨g, cap, cur, rfl, _⟩
    · rw [run_convert_runes_nil w src dst e _ _ hs he hd]; rfl
    · have := run_convert_runes (P := P) w src dst e ⟨g, 0, none⟩ 0 cap [] (Nat.le_refl _) hs he hd (fun j hj => by simp at hj)
      simpa using this
end Go.Proofs.YtcelplibjhannaaDoor
