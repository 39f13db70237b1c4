/- Plain facts on a text cut into lines: no Go in sight. -/
import Derived.Lib.IndexLaws
import Derived.Lib.Bytes
namespace Go.Proofs.Qxb6601719a.Plain
open Go.Lib

/-- Where piece k begins. -/
def off (ms : List Nat) (k : Nat) : Nat := (ms.take k).sum

/-- A line of zs: m bytes from o on, a newline at most as its last byte; and there, unless it is the text's end. -/
def Piece (zs : List Int) (o m : Nat) : Prop :=
  0 < m ∧ o + m ≤ zs.length ∧ (∀ j, o ≤ j → j + 1 < o + m → zs.getD j 0 ≠ 10) ∧ (o + m < zs.length → zs.getD (o + m - 1) 0 = 10)

def Cut (zs : List Int) (ms : List Nat) : Prop := ∀ k (h : k < ms.length), Piece zs (off ms k) ms[k]

theorem off_zero (ms : List Nat) : off ms 0 = 0 := by simp [off]

theorem off_all (ms : List Nat) : off ms ms.length = ms.sum := by simp [off]

theorem off_succ (ms : List Nat) (k : Nat) (h : k < ms.length) : off ms (k + 1) = off ms k + ms[k] := by
  unfold off
  rw [List.take_succ_eq_append_getElem h, List.sum_append]
  simp

theorem off_append (ms : List Nat) (m k : Nat) (h : k ≤ ms.length) : off (ms ++ [m]) k = off ms k := by
  unfold off
  rw [List.take_append_of_le_length h]

theorem cut_nil (zs : List Int) : Cut zs [] := fun k h => by simp at h

theorem cut_snoc {zs : List Int} {ms : List Nat} {m : Nat} (hc : Cut zs ms) (hp : Piece zs ms.sum m) : Cut zs (ms ++ [m]) := by
  intro k h
  rw [List.length_append, List.length_singleton] at h
  by_cases hk : k < ms.length
  · rw [off_append _ _ _ (by omega), List.getElem_append_left hk]
    exact hc k hk
  · have e : k = ms.length := by omega
    subst e
    rw [off_append _ _ _ (by omega), off_all, List.getElem_append_right (by omega)]
    simpa using hp

theorem sum_snoc (ms : List Nat) (m : Nat) : (ms ++ [m]).sum = ms.sum + m := by simp

/-- Every piece but the last ends in a newline. -/
theorem cut_inner {zs : List Int} {ms : List Nat} {k : Nat} (hc : Cut zs ms) (h : k + 1 < ms.length) : zs.getD (off ms k + ms[k] - 1) 0 = 10 := by
  have h1 := (hc k (by omega)).2.2.2
  have h2 := hc (k + 1) h
  rw [off_succ ms k (by omega)] at h2
  exact h1 (by have := h2.1; have := h2.2.1; omega)

theorem getD_drop (zs : List Int) (p j : Nat) : (zs.drop p).getD j 0 = zs.getD (p + j) 0 := by
  simp [List.getD, List.getElem?_drop]

theorem byte_back {zs : List Int} (hb : ∀ z ∈ zs, 0 ≤ z ∧ z ≤ 255) (p j : Nat) (h : p + j < zs.length) (c : UInt8) :
    (bytesOf (zs.drop p))[j]? = some c ↔ zs.getD (p + j) 0 = (c.toNat : Int) := by
  have hz := hb (zs[p + j]) (List.getElem_mem h)
  have e : zs.getD (p + j) 0 = zs[p + j] := by simp [List.getD, List.getElem?_eq_getElem h]
  have e2 : (bytesOf (zs.drop p))[j]? = some (UInt8.ofNat (zs[p + j]).toNat) := by
    simp [bytesOf, List.getElem?_eq_getElem h]
  rw [e2, e, Option.some.injEq]
  constructor
  · intro h'
    rw [← h', UInt8.toNat_ofNat']
    omega
  · intro h'
    rw [h', Int.toNat_natCast]
    simp

/-- A newline was found: the piece up to it. -/
theorem piece_found {zs : List Int} (hb : ∀ z ∈ zs, 0 ≤ z ∧ z ≤ 255) {p o : Nat} (h : indexByte (bytesOf (zs.drop p)) 10 = o) : Piece zs p (o + 1) := by
  obtain ⟨h1, h2⟩ := indexByte_some h
  have hlt : p + o < zs.length := by
    have : o < (bytesOf (zs.drop p)).length := by
      by_cases hh : o < (bytesOf (zs.drop p)).length
      · exact hh
      · rw [List.getElem?_eq_none (by omega)] at h1; cases h1
    rw [bytesOf_length, List.length_drop] at this
    omega
  refine ⟨by omega, by omega, fun j hj hj2 e => ?_, fun _ => ?_⟩
  · have := (byte_back hb p (j - p) (by omega) 10).2 (by rw [show p + (j - p) = j by omega]; exact e)
    exact h2 (j - p) (by omega) this
  · have := (byte_back hb p o hlt 10).1 h1
    rw [show p + (o + 1) - 1 = p + o by omega]
    exact this

/-- None was found: the rest is one piece. -/
theorem piece_rest {zs : List Int} (hb : ∀ z ∈ zs, 0 ≤ z ∧ z ≤ 255) {p : Nat} (hp : p < zs.length) (h : indexByte (bytesOf (zs.drop p)) 10 = -1) : Piece zs p (zs.length - p) := by
  refine ⟨by omega, by omega, fun j hj hj2 e => ?_, fun hh => by omega⟩
  have := (byte_back hb p (j - p) (by omega) 10).2 (by rw [show p + (j - p) = j by omega]; exact e)
  exact indexByte_none h (j - p) this

theorem index_lt (l : List UInt8) (c : UInt8) : indexByte l c < l.length := by
  induction l with
  | nil => simp [indexByte]
  | cons b l ih =>
    unfold indexByte
    split
    · simp only [List.length_cons]; omega
    · split
      · simp only [List.length_cons]; omega
      · simp only [List.length_cons]; omega

end Go.Proofs.Qxb6601719a.Plain
