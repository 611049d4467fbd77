/- Plain words on bytes, digits and Punycode (no program): what the reference and the program compute. -/
import Derived.Below
import Derived.Lib.Hide
import Derived.Laws.Cover4
import Derived.Lib.IndexBytes
namespace Go.Proofs.YtcelplibjhannaaDoor
open Go.RowKit

/-- a part and a byte of a string that is written as a list: the walk takes these for rules -/
theorem bx (l : List UInt8) (a b : Nat) : (⟨l.toArray⟩ : ByteArray).extract a b = ⟨((l.take b).drop a).toArray⟩ := by
  apply ByteArray.ext
  apply Array.ext'
  rw [Lib.extract_data]
  simp [List.drop_take]
theorem bi (l : List UInt8) (k : Nat) (h : k < (⟨l.toArray⟩ : ByteArray).size) : (⟨l.toArray⟩ : ByteArray)[k]'h = l[k]'h := rfl
theorem ba (l m : List UInt8) : (⟨l.toArray⟩ : ByteArray) ++ ⟨m.toArray⟩ = ⟨(l ++ m).toArray⟩ := by
  apply ByteArray.ext; simp
attribute [go_sem] bx bi ba
def strLen : Value → Nat | .string s => s.size | _ => 0
theorem c95 (c : UInt8) : (c.toNat : Int) = 95 ↔ c = 95 := by
  constructor
  · intro h
    apply UInt8.toNat_inj.1
    show c.toNat = 95
    omega
  · intro h; rw [h]; rfl
theorem c95t {c : UInt8} (h : ((c.toNat : Int) == 95) = true) : c = 95 := (c95 c).1 (by simpa using h)
theorem c95f {c : UInt8} (h : ((c.toNat : Int) == 95) = false) : ¬ c = 95 := fun hc => by subst hc; simp at h
def isDig (c : Int) : Bool := decide (48 ≤ c ∧ c ≤ 57)
def isLet (c : Int) : Bool := decide ((65 ≤ c ∧ c ≤ 90) ∨ (97 ≤ c ∧ c ≤ 122))
def isPlain (c : UInt8) : Bool := isDig c.toNat || decide ((c.toNat : Int) = 95) || isLet c.toNat
/-- the value of a digit of Punycode, -1 for none -/
def digV (c : Int) : Int := if 97 ≤ c ∧ c ≤ 122 then c - 97 else if 48 ≤ c ∧ c ≤ 57 then c - 48 + 26 else -1
def thr (place bias : Int) : Int := min (max (36 * place - bias) 1) 26
theorem thr_bd (p b : Int) : 1 ≤ thr p b ∧ thr p b ≤ 26 := by unfold thr; omega
theorem digV_bd (c : Int) : -1 ≤ digV c ∧ digV c ≤ 35 := by unfold digV; split <;> (try split) <;> omega

/-- one delta: what was read together with what was there before, and what follows -/
def rd : List UInt8 → (place weight sum bias : Int) → Option (Int × List UInt8)
  | [], _, _, _, _ => none
  | c :: r, place, weight, sum, bias =>
    if digV c.toNat < 0 ∨ weight > 1099511627776 then none
    else if digV c.toNat < thr place bias then (if sum + digV c.toNat * weight ≤ 1099511627776 then some (sum + digV c.toNat * weight, r) else none)
    else if weight ≥ 59652323 then none
    else rd r (place + 1) (weight * (36 - thr place bias)) (sum + digV c.toNat * weight) bias

theorem rd_len : ∀ (l : List UInt8) (p w s b : Int) (x : Int) (r : List UInt8), rd l p w s b = some (x, r) → r.length < l.length
  | [], _, _, _, _, _, _, h => by simp [rd] at h
  | c :: l, p, w, s, b, x, r, h => by
    unfold rd at h
    split at h
    · cases h
    · split at h
      · split at h
        · cases h; simp
        · cases h
      · split at h
        · cases h
        · have := rd_len l _ _ _ _ x r h; simp; omega

theorem rd_ge : ∀ (l : List UInt8) (p w s b : Int) (x : Int) (r : List UInt8), 0 ≤ w → rd l p w s b = some (x, r) → s ≤ x ∧ x ≤ 1099511627776
  | [], _, _, _, _, _, _, _, h => by simp [rd] at h
  | c :: l, p, w, s, b, x, r, hw, h => by
    unfold rd at h
    split at h
    · cases h
    · rename_i h0
      have hd : 0 ≤ digV c.toNat * w := Int.mul_nonneg (by omega) hw
      split at h
      · split at h
        · cases h; omega
        · cases h
      · split at h
        · cases h
        · have ht := thr_bd p b
          have := rd_ge l _ _ _ _ x r (Int.mul_nonneg hw (by omega)) h; omega

/-- the loop of the bias -/
def adLoop : Nat → (d k : Int) → Int × Int
  | 0, d, k => (d, k)
  | n + 1, d, k => if d > 455 then adLoop n (d / 35) (k + 36) else (d, k)
def ad0 (delta many : Int) (first : Bool) : Int := (if first then delta / 700 else delta / 2) + (if first then delta / 700 else delta / 2) / many
def adapt (delta many : Int) (first : Bool) : Int :=
  (adLoop 16 (ad0 delta many first) 0).2 + 36 * (adLoop 16 (ad0 delta many first) 0).1 / ((adLoop 16 (ad0 delta many first) 0).1 + 38)

theorem adLoop_bd : ∀ (n : Nat) (d k : Int), 0 ≤ d → 0 ≤ k → 0 ≤ (adLoop n d k).1 ∧ (adLoop n d k).1 ≤ d ∧ k ≤ (adLoop n d k).2 ∧ (adLoop n d k).2 ≤ k + 36 * n
  | 0, d, k, h1, h2 => by simp [adLoop]; omega
  | n + 1, d, k, h1, h2 => by
    unfold adLoop
    split
    · have h := adLoop_bd n (d / 35) (k + 36) (by omega) (by omega)
      refine ⟨h.1, by have := h.2.1; omega, by have := h.2.2.1; omega, by have := h.2.2.2; push_cast; omega⟩
    · exact ⟨h1, Int.le_refl _, Int.le_refl _, by push_cast; omega⟩
/-- enough rounds: the delta ends at 455 or less -/
theorem adLoop_end : ∀ (n : Nat) (d k : Int), 0 ≤ d → d ≤ 455 * 35 ^ n → (adLoop n d k).1 ≤ 455
  | 0, d, k, _, h => by simp [adLoop] at *; omega
  | n + 1, d, k, h0, h => by
    unfold adLoop
    split
    · exact adLoop_end n _ _ (by omega) (by rw [Int.pow_succ] at h; omega)
    · omega

def scalar (n : Int) : Bool := decide (n < 55296) || (decide (57343 < n) && decide (n ≤ 1114111))
def insAt (l : List Int) (i : Nat) (x : Int) : List Int := l.take i ++ x :: l.drop i
theorem insAt_len (l : List Int) (i : Nat) (x : Int) : (insAt l i x).length = l.length + 1 := by unfold insAt; simp; omega

/-- the characters of Punycode: from a list that has been read, the digits, the number of characters before, the place and the bias on -/
def dec : Nat → List Int → List UInt8 → (now place bias : Int) → Option (List Int)
  | _, l, [], _, _, _ => some l
  | 0, _, _ :: _, _, _, _ => none
  | n + 1, l, ds@(_ :: _), now, place, bias =>
    match rd ds 1 1 place bias with
    | none => none
    | some (s, r) =>
      if scalar (now + s / (l.length + 1)) then
        dec n (insAt l (s % (l.length + 1)).toNat (now + s / (l.length + 1))) r (now + s / (l.length + 1)) (s % (l.length + 1) + 1) (adapt (s - place) (l.length + 1) (place == 0))
      else none
def chars (b : List UInt8) : List Int := b.map fun c => (c.toNat : Int)
def decoded (before digits : List UInt8) : Option (List Int) := dec digits.length (chars before) digits 128 0 72

/-- the bytes of characters in UTF-8 -/
def u8 (l : List Int) : List UInt8 := (runesBytes l).data.toList

theorem dec_bd : ∀ (n : Nat) (l : List Int) (ds : List UInt8) (now p b : Int) (r : List Int), (∀ c ∈ l, 0 ≤ c ∧ c ≤ 1114111) → 128 ≤ now → 0 ≤ p → dec n l ds now p b = some r → ∀ c ∈ r, 0 ≤ c ∧ c ≤ 1114111
  | n, l, [], now, p, b, r, hl, _, _, h => by
    have : some l = some r := by rw [← h]; cases n <;> rfl
    cases this; exact hl
  | 0, l, _ :: _, now, p, b, r, hl, _, _, h => by simp [dec] at h
  | n + 1, l, x :: xs, now, p, b, r, hl, hn, hp, h => by
    unfold dec at h
    cases hx : rd (x :: xs) 1 1 p b with
    | none => rw [hx] at h; cases h
    | some sr =>
      obtain ⟨s, r'⟩ := sr
      have hge := rd_ge _ _ _ _ _ _ _ (by omega) hx
      simp only [hx] at h
      split at h
      · rename_i hs
        have q0 : 0 ≤ s / ((l.length : Int) + 1) := Int.ediv_nonneg (by omega) (by omega)
        have m0 : 0 ≤ s % ((l.length : Int) + 1) := Int.emod_nonneg _ (by omega)
        refine dec_bd n _ _ _ _ _ r (fun c hc => ?_) (by omega) (by omega) h
        simp only [insAt, List.mem_append, List.mem_cons] at hc
        rcases hc with hc | rfl | hc
        · exact hl c (List.mem_of_mem_take hc)
        · simp [scalar] at hs; omega
        · exact hl c (List.mem_of_mem_drop hc)
      · cases h
theorem dec_len : ∀ (n : Nat) (l : List Int) (ds : List UInt8) (now p b : Int) (r : List Int), dec n l ds now p b = some r → r.length ≤ l.length + ds.length
  | n, l, [], now, p, b, r, h => by
    have : some l = some r := by rw [← h]; cases n <;> rfl
    cases this; simp
  | 0, l, _ :: _, now, p, b, r, h => by simp [dec] at h
  | n + 1, l, x :: xs, now, p, b, r, h => by
    unfold dec at h
    cases hx : rd (x :: xs) 1 1 p b with
    | none => rw [hx] at h; cases h
    | some sr =>
      obtain ⟨s, r'⟩ := sr
      have hlen := rd_len _ _ _ _ _ _ _ hx
      simp only [hx] at h
      split at h
      · have := dec_len n _ _ _ _ _ r h
        rw [insAt_len] at this; simp at *; omega
      · cases h
theorem decoded_bd {b d : List UInt8} {r : List Int} (h : decoded b d = some r) : ∀ c ∈ r, 0 ≤ c ∧ c ≤ 1114111 :=
  dec_bd _ _ _ _ _ _ r (fun c hc => by simp only [chars, List.mem_map] at hc; obtain ⟨x, _, rfl⟩ := hc; have := x.toNat_lt; omega) (by omega) (by omega) h
theorem decoded_len {b d : List UInt8} {r : List Int} (h : decoded b d = some r) : r.length ≤ b.length + d.length := by
  have := dec_len _ _ _ _ _ _ r h; simpa [chars] using this
/-- the place of the last underscore among the first k bytes, -1 for none -/
def cutTo (l : List UInt8) : Nat → Int
  | 0 => -1
  | k + 1 => if l[k]? = some 95 then (k : Int) else cutTo l k
theorem cutTo_bd (l : List UInt8) : ∀ k, -1 ≤ cutTo l k ∧ cutTo l k < k
  | 0 => by simp [cutTo]
  | k + 1 => by
    have := cutTo_bd l k
    unfold cutTo; split <;> omega
def cutOf (l : List UInt8) : Int := cutTo l l.length
def befOf (l : List UInt8) : List UInt8 := if 0 < cutOf l then l.take (cutOf l).toNat else []
def digOf (l : List UInt8) : List UInt8 := l.drop (cutOf l + 1).toNat
/-- the name that the bytes of an identifier tell -/
def told (l : List UInt8) (puny : Bool) : Option (List UInt8) :=
  if l.all isPlain = false then none
  else if puny = false then some l
  else if cutOf l = 0 ∨ digOf l = [] then none
  else (decoded (befOf l) (digOf l)).map u8
theorem runes_snoc (l : List Int) (c : Int) : runesBytes (l ++ [c]) = runesBytes l ++ Utf8.encode c := by simp [runesBytes]
theorem u8_val (l : List Int) : (⟨(u8 l).toArray⟩ : ByteArray) = runesBytes l := by simp [u8]
/-- digits in base 62, as the program reads them -/
def d62 (c : Int) : Int := if 48 ≤ c ∧ c ≤ 57 then c - 48 else if 97 ≤ c ∧ c ≤ 122 then c - 97 + 10 else if 65 ≤ c ∧ c ≤ 90 then c - 65 + 36 else -1
theorem d62_in {c : Int} (h : ¬ d62 c < 0) : (48 ≤ c ∧ c ≤ 57) ∨ (97 ≤ c ∧ c ≤ 122) ∨ (65 ≤ c ∧ c ≤ 90) := by
  unfold d62 at h
  split at h
  · exact .inl ‹_›
  · split at h
    · exact .inr (.inl ‹_›)
    · split at h
      · exact .inr (.inr ‹_›)
      · omega
theorem d62_out {c : Int} (h : d62 c < 0) : (c < 48 ∨ 57 < c) ∧ (c < 97 ∨ 122 < c) ∧ (c < 65 ∨ 90 < c) := by
  unfold d62 at h
  split at h
  · omega
  · split at h
    · omega
    · split at h <;> omega
def p62 : List UInt8 → Int → Option (Int × List UInt8)
  | [], _ => none
  | c :: r, v => if (c.toNat : Int) = 95 then some (wrap64 (v + 1), r) else if d62 c.toNat < 0 then none else p62 r (wrap64 (wrap64 (v * 62) + d62 c.toNat))
def b62 (l : List UInt8) : Option (Int × List UInt8) := if l.head? = some 95 then some (0, l.tail) else p62 l 0
theorem p62_len : ∀ (l : List UInt8) (v x : Int) (r : List UInt8), p62 l v = some (x, r) → r.length < l.length
  | [], _, _, _, h => by simp [p62] at h
  | c :: l, v, x, r, h => by
    unfold p62 at h
    split at h
    · cases h; simp
    · split at h
      · cases h
      · have := p62_len l _ x r h; simp; omega
theorem b62_len {l : List UInt8} {x : Int} {r : List UInt8} (h : b62 l = some (x, r)) : r.length < l.length := by
  unfold b62 at h
  split at h
  · cases l with
    | nil => simp at *
    | cons c l => cases h; simp
  · exact p62_len _ _ _ _ h
/-- a decimal number, as the program reads it -/
def pdec : List UInt8 → Int → Option (Int × List UInt8)
  | [], v => some (v, [])
  | c :: r, v => if isDig c.toNat = true then (if v ≥ 214748364 - ((c.toNat : Int) - 48) then none else pdec r (v * 10 + ((c.toNat : Int) - 48))) else some (v, c :: r)
def decN (l : List UInt8) : Option (Int × List UInt8) := if l = [] then none else pdec l 0
theorem pdec_ok : ∀ (l : List UInt8) (v x : Int) (r : List UInt8), 0 ≤ v → v ≤ 2147483648 → pdec l v = some (x, r) → r.length ≤ l.length ∧ 0 ≤ x ∧ x ≤ 2147483648
  | [], v, x, r, h0, h1, h => by simp [pdec] at h; obtain ⟨rfl, rfl⟩ := h; exact ⟨Nat.le_refl _, h0, h1⟩
  | c :: l, v, x, r, h0, h1, h => by
    unfold pdec at h
    split at h
    · rename_i hd
      simp [isDig] at hd
      split at h
      · cases h
      · have := pdec_ok l _ x r (by omega) (by omega) h; simp; omega
    · cases h; exact ⟨Nat.le_refl _, h0, h1⟩
theorem decN_ok {l : List UInt8} {x : Int} {r : List UInt8} (h : decN l = some (x, r)) : r.length ≤ l.length ∧ 0 ≤ x ∧ x ≤ 2147483648 := by
  unfold decN at h
  split at h
  · cases h
  · exact pdec_ok _ _ _ _ (by omega) (by omega) h
/-- a disambiguator -/
def disN (l : List UInt8) : Option (Int × List UInt8) := if l.head? = some 115 then (b62 l.tail).map (fun x => (wrap64 (x.1 + 1), x.2)) else some (0, l)
theorem disN_len {l : List UInt8} {x : Int} {r : List UInt8} (h : disN l = some (x, r)) : r.length ≤ l.length := by
  unfold disN at h
  split at h
  · cases hb : b62 l.tail with
    | none => rw [hb] at h; cases h
    | some y =>
      rw [hb] at h; simp at h; obtain ⟨_, rfl⟩ := h
      have := b62_len (x := y.1) (r := y.2) (by rw [hb]); simp at this; omega
  · cases h; exact Nat.le_refl _
/-- an identifier without its disambiguator: nothing is said of digits of Punycode that tell no name ('none'); it is refused ('some none'); or its name, whether it is in Punycode, and what follows -/
def undN (l : List UInt8) : Option (Option (List UInt8 × Bool × List UInt8)) :=
  let u := decide (l.head? = some 117)
  let l1 := if u then l.tail else l
  match decN l1 with
  | none => some none
  | some (v, l2) =>
    let l3 := if l2.head? = some 95 then l2.tail else l2
    if (l3.length : Int) < v then some none
    else if (l3.take v.toNat).all isPlain = false then some none
    else match told (l3.take v.toNat) u with
      | none => none
      | some t => some (some (t, u, l3.drop v.toNat))
theorem adapt_bd (d m : Int) (f : Bool) (h0 : 0 ≤ d) (h1 : d ≤ 1099511627776) (hm : 1 ≤ m) : 0 ≤ adapt d m f ∧ adapt d m f ≤ 700 := by
  have h2 : 0 ≤ ad0 d m f := by
    unfold ad0
    have hx : 0 ≤ (if f then d / 700 else d / 2) := by split <;> omega
    have := Int.ediv_nonneg hx (show (0:Int) ≤ m by omega)
    omega
  have hb := adLoop_bd 16 (ad0 d m f) 0 h2 (by omega)
  unfold adapt
  generalize adLoop 16 (ad0 d m f) 0 = p at *
  obtain ⟨q, k⟩ := p
  simp only at *
  have h3 : 36 * q / (q + 38) ≤ 36 := by
    apply Int.ediv_le_of_le_mul (by omega); omega
  have h4 : 0 ≤ 36 * q / (q + 38) := Int.ediv_nonneg (by omega) (by omega)
  omega
end Go.Proofs.YtcelplibjhannaaDoor
