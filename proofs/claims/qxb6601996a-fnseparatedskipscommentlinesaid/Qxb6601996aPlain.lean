/- What 'separated' finds, on lists of bytes: no Go in sight. -/
import Derived.Lib.IndexLaws
import Derived.Lib.Bytes
namespace Go.Proofs.Qxb6601996a.Plain
open Go.Lib

/-- A blank or a line break. -/
def isBlank (z : Int) : Bool := z == 32 || z == 9 || z == 13 || z == 10

/-- What is left past blanks, line breaks and comments; 'none' where a comment never ends. The flag: inside a comment. -/
def sepF : Bool → List Int → Option (List Int)
  | false, [] => some []
  | false, z :: l => if isBlank z then sepF false l else if z == 35 then sepF true l else some (z :: l)
  | true, [] => none
  | true, z :: l => if z == 10 then sepF false l else sepF true l

theorem sep_comment (cz tz : List Int) (h : ∀ z ∈ cz, z ≠ 10) : sepF true (cz ++ 10 :: tz) = sepF false tz := by
  induction cz with
  | nil => simp [sepF]
  | cons z l ih =>
    have hz : (z == 10) = false := beq_eq_false_iff_ne.2 (h z (by simp))
    rw [List.cons_append]
    conv => lhs; unfold sepF
    rw [hz]
    exact ih (fun y hy => h y (by simp [hy]))

/-- THE LAW: a comment line ahead of a text changes nothing. -/
theorem sep_line (cz tz : List Int) (h : ∀ z ∈ cz, z ≠ 10) : sepF false (35 :: (cz ++ 10 :: tz)) = sepF false tz := by
  conv => lhs; unfold sepF
  have h1 : isBlank 35 = false := by decide
  rw [h1]
  simp only [Bool.false_eq_true, if_false]
  exact sep_comment cz tz h

theorem drop_cons (zs : List Int) (p : Nat) (h : p < zs.length) : zs.drop p = zs[p] :: zs.drop (p + 1) := List.drop_eq_getElem_cons h

theorem sep_blank (zs : List Int) (p : Nat) (h : p < zs.length) (hb : isBlank zs[p] = true) : sepF false (zs.drop p) = sepF false (zs.drop (p + 1)) := by
  rw [drop_cons zs p h]
  conv => lhs; unfold sepF
  rw [hb]
  rfl

theorem sep_hash (zs : List Int) (p : Nat) (h : p < zs.length) (hb : zs[p] = 35) : sepF false (zs.drop p) = sepF true (zs.drop (p + 1)) := by
  rw [drop_cons zs p h, hb]
  conv => lhs; unfold sepF
  have h1 : isBlank 35 = false := by decide
  rw [h1]
  rfl

theorem sep_other (zs : List Int) (p : Nat) (h : p < zs.length) (hb : isBlank zs[p] = false) (h35 : zs[p] ≠ 35) : sepF false (zs.drop p) = some (zs.drop p) := by
  rw [drop_cons zs p h]
  conv => lhs; unfold sepF
  have h1 : (zs[p] == 35) = false := beq_eq_false_iff_ne.2 h35
  rw [hb, h1]
  rfl

theorem sep_true_none (l : List Int) (h : ∀ z ∈ l, z ≠ 10) : sepF true l = none := by
  induction l with
  | nil => rfl
  | cons z l ih =>
    have hz : (z == 10) = false := beq_eq_false_iff_ne.2 (h z (by simp))
    unfold sepF
    rw [hz]
    exact ih (fun y hy => h y (by simp [hy]))

theorem sep_true_some (l : List Int) (o : Nat) (ho : o < l.length) (h10 : l[o] = 10) (h : ∀ j (hj : j < o), l[j]'(by omega) ≠ 10) : sepF true l = sepF false (l.drop o) := by
  induction l generalizing o with
  | nil => simp at ho
  | cons z l ih =>
    cases o with
    | zero =>
      have hz : z = 10 := by simpa using h10
      subst hz
      simp [sepF, isBlank]
    | succ o =>
      have hz : (z == 10) = false := beq_eq_false_iff_ne.2 (by simpa using h 0 (by omega))
      conv => lhs; unfold sepF
      rw [hz, List.drop_succ_cons]
      exact ih o (by simpa using ho) (by simpa using h10) (fun j hj => by simpa using h (j + 1) (by omega))

theorem byte_back {zs : List Int} (hb : ∀ z ∈ zs, 0 ≤ z ∧ z ≤ 255) (p j : Nat) (h : p + j < zs.length) (c : UInt8) :
    (bytesOf (zs.drop p))[j]? = some c ↔ zs[p + j] = (c.toNat : Int) := by
  have hz := hb (zs[p + j]) (List.getElem_mem h)
  have e2 : (bytesOf (zs.drop p))[j]? = some (UInt8.ofNat (zs[p + j]).toNat) := by
    simp [bytesOf, List.getElem?_eq_getElem h]
  rw [e2, Option.some.injEq]
  constructor
  · intro h'
    rw [← h', UInt8.toNat_ofNat']
    omega
  · intro h'
    rw [h', Int.toNat_natCast]
    simp

theorem index_lt (l : List UInt8) (c : UInt8) : indexByte l c < l.length := by
  induction l with
  | nil => simp [indexByte]
  | cons b l ih =>
    unfold indexByte
    split
    · simp only [List.length_cons]; omega
    · split
      · simp only [List.length_cons]; omega
      · simp only [List.length_cons]; omega

/-- A comment that never ends. -/
theorem sep_endless {zs : List Int} (hb : ∀ z ∈ zs, 0 ≤ z ∧ z ≤ 255) {p : Nat} (h : p < zs.length) (h35 : zs[p] = 35) (hi : indexByte (bytesOf (zs.drop p)) 10 = -1) : sepF false (zs.drop p) = none := by
  rw [sep_hash zs p h h35]
  refine sep_true_none _ (fun z hz => ?_)
  obtain ⟨j, hj, rfl⟩ := List.mem_iff_getElem.1 hz
  rw [List.length_drop] at hj
  rw [List.getElem_drop]
  intro e
  have hlt : p + (1 + j) < zs.length := by omega
  have := (byte_back hb p (1 + j) hlt 10).2 (by
    have e2 : p + (1 + j) = p + 1 + j := by omega
    simp only [e2]
    exact e)
  exact indexByte_none hi (1 + j) this

/-- A comment that ends at its line's end. -/
theorem sep_ends {zs : List Int} (hb : ∀ z ∈ zs, 0 ≤ z ∧ z ≤ 255) {p o : Nat} (h : p < zs.length) (h35 : zs[p] = 35) (hi : indexByte (bytesOf (zs.drop p)) 10 = o) :
    0 < o ∧ p + o < zs.length ∧ sepF false (zs.drop p) = sepF false (zs.drop (p + o)) := by
  obtain ⟨h1, h2⟩ := indexByte_some hi
  have hlt : p + o < zs.length := by
    have : o < (bytesOf (zs.drop p)).length := by
      by_cases hh : o < (bytesOf (zs.drop p)).length
      · exact hh
      · rw [List.getElem?_eq_none (by omega)] at h1; cases h1
    rw [bytesOf_length, List.length_drop] at this
    omega
  have e1 := (byte_back hb p o hlt 10).1 h1
  have hpos : 0 < o := by
    rcases Nat.eq_zero_or_pos o with h0 | h0
    · subst h0
      have : zs[p] = 10 := by simpa using e1
      omega
    · exact h0
  refine ⟨hpos, hlt, ?_⟩
  rw [sep_hash zs p h h35]
  have e := sep_true_some (zs.drop (p + 1)) (o - 1) (by rw [List.length_drop]; omega) (by
    rw [List.getElem_drop]
    have : p + 1 + (o - 1) = p + o := by omega
    simp only [this]
    exact e1) (fun j hj => by
    rw [List.getElem_drop]
    intro e'
    have hlt' : p + (1 + j) < zs.length := by omega
    have := (byte_back hb p (1 + j) hlt' 10).2 (by
      have e2 : p + (1 + j) = p + 1 + j := by omega
      simp only [e2]
      exact e')
    exact h2 (1 + j) (by omega) this)
  rw [e, List.drop_drop]
  have : p + 1 + (o - 1) = p + o := by omega
  rw [this]

theorem sep_len (l : List Int) : ∀ (f : Bool) (r : List Int), sepF f l = some r → r.length ≤ l.length := by
  induction l with
  | nil =>
    intro f r h
    cases f with
    | false =>
      have : r = [] := by simpa [sepF, eq_comm] using h
      subst this; exact Nat.le_refl _
    | true => simp [sepF] at h
  | cons z l ih =>
    intro f r h
    rw [List.length_cons]
    cases f with
    | false =>
      unfold sepF at h
      split at h
      · have := ih _ _ h; omega
      · split at h
        · have := ih _ _ h; omega
        · have e : z :: l = r := Option.some.inj h
          subst e; exact Nat.le_refl _
    | true =>
      unfold sepF at h
      split at h
      · have := ih _ _ h; omega
      · have := ih _ _ h; omega

end Go.Proofs.Qxb6601996a.Plain
