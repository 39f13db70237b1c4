/- Plain laws on the first reference of a text: no Go in sight. -/
import Derived.Lib.IndexLaws
namespace Go.Proofs.Qxb6601656a.Plain
open Go.Lib

/-- The offset of the first opening, or -1. -/
def nrStart (l : List UInt8) : Int := index l [36, 123]
/-- The first close behind place i, relative to it, or -1. -/
def nrClose (l : List UInt8) (i : Int) : Int := indexByte (l.drop i.toNat) 125
/-- The offset just behind the first close behind the first opening, or -1. -/
def nrEnd (l : List UInt8) : Int :=
  if nrStart l < 0 then -1 else if nrClose l (nrStart l + 2) < 0 then -1 else nrStart l + 2 + nrClose l (nrStart l + 2) + 1

theorem start_ge (l : List UInt8) : -1 ≤ nrStart l := index_ge l _

theorem indexByte_lt : ∀ (l : List UInt8) (c : UInt8), indexByte l c < l.length ∨ indexByte l c = -1
  | [], _ => Or.inr rfl
  | b :: l, c => by
    unfold indexByte
    split
    · left; simp only [List.length_cons]; omega
    · split
      · right; rfl
      · rename_i h
        have h' : indexByte l c ≠ -1 := fun e => h (beq_iff_eq.2 e)
        rcases indexByte_lt l c with h1 | h1
        · left; simp only [List.length_cons]; omega
        · exact absurd h1 h'

/-- What a start that is not negative says. -/
theorem start_occ {l : List UInt8} {i : Nat} (h : nrStart l = i) : occAt l [36, 123] i = true ∧ NoOcc l [36, 123] i ∧ i + 2 ≤ l.length := by
  unfold nrStart at h
  by_cases hx : ∃ j, j ≤ l.length ∧ occAt l [36, 123] j = true
  · obtain ⟨j, hj, ho⟩ := hx
    -- the least one
    have hleast : ∀ n, (∃ j, j < n ∧ j ≤ l.length ∧ occAt l [36, 123] j = true) → ∃ j, j ≤ l.length ∧ occAt l [36, 123] j = true ∧ ∀ k, k < j → occAt l [36, 123] k = false := by
      intro n
      induction n with
      | zero => rintro ⟨j, hj, _⟩; omega
      | succ n ih =>
        rintro ⟨j, hj, hjl, ho⟩
        by_cases hb : ∃ k, k < n ∧ k ≤ l.length ∧ occAt l [36, 123] k = true
        · exact ih hb
        · refine ⟨j, hjl, ho, fun k hk => ?_⟩
          cases e : occAt l [36, 123] k with
          | false => rfl
          | true => exact absurd ⟨k, by omega, by omega, e⟩ hb
    obtain ⟨m, hm, hmo, hmn⟩ := hleast (j + 1) ⟨j, by omega, hj, ho⟩
    have hi := index_first hm hmo hmn
    have : m = i := by rw [hi] at h; exact Int.ofNat.inj h
    subst this
    refine ⟨hmo, hmn, ?_⟩
    rcases occAt_room hmo with h' | h'
    · simpa using h'
    · simp at h'
  · have : index l [36, 123] = -1 := index_none fun j hj => by
      cases e : occAt l [36, 123] j with
      | false => rfl
      | true => exact absurd ⟨j, hj, e⟩ hx
    rw [this] at h
    omega

theorem start_none {l : List UInt8} (h : nrStart l < 0) : ∀ j, occAt l [36, 123] j = false := by
  intro j
  cases e : occAt l [36, 123] j with
  | false => rfl
  | true =>
    exfalso
    have hroom : j + 2 ≤ l.length := by
      rcases occAt_room e with h' | h'
      · simpa using h'
      · simp at h'
    have key : ∀ n, (∀ k, k < n → occAt l [36, 123] k = false) ∨ ∃ k, k < n ∧ occAt l [36, 123] k = true ∧ ∀ k', k' < k → occAt l [36, 123] k' = false := by
      intro n
      induction n with
      | zero => left; intro k hk; omega
      | succ n ih =>
        rcases ih with ih | ⟨k, hk, ho, hn⟩
        · cases en : occAt l [36, 123] n with
          | false =>
            left
            intro k hk
            by_cases hkn : k = n
            · subst hkn; exact en
            · exact ih k (by omega)
          | true => right; exact ⟨n, by omega, en, ih⟩
        · right; exact ⟨k, by omega, ho, hn⟩
    rcases key (j + 1) with hk | ⟨k, hk, ho, hn⟩
    · rw [hk j (by omega)] at e; cases e
    · have := index_first (s := l) (sub := [36, 123]) (i := k) (by omega) ho hn
      unfold nrStart at h
      omega

/-- An opening, byte by byte. -/
theorem occ_iff (l : List UInt8) (i : Nat) : occAt l [36, 123] i = true ↔ l[i]? = some 36 ∧ l[i + 1]? = some 123 := by
  unfold occAt
  have e0 : l[i]? = (l.drop i)[0]? := by simp
  have e1 : l[i + 1]? = (l.drop i)[1]? := by simp
  rw [e0, e1]
  rcases l.drop i with _ | ⟨a, _ | ⟨b, t⟩⟩
  · simp
  · simp
  · simp only [List.isPrefixOf, List.getElem?_cons_zero, List.getElem?_cons_succ, Option.some.injEq, Bool.and_true, Bool.and_eq_true, beq_iff_eq]
    constructor <;> rintro ⟨h1, h2⟩ <;> exact ⟨h1.symm, h2.symm⟩

/-! ### A text without a dollar sign, put in front, moves the answer -/
theorem noOcc_prefix {p s : List UInt8} (hp : ∀ (k : Nat), p[k]? ≠ some 36) : NoOcc (p ++ s) [36, 123] p.length := by
  intro j hj
  cases e : occAt (p ++ s) [36, 123] j with
  | false => rfl
  | true =>
    exfalso
    have := ((occ_iff _ _).1 e).1
    rw [List.getElem?_append_left hj] at this
    exact hp j this

theorem start_shift {p s : List UInt8} (hp : ∀ (k : Nat), p[k]? ≠ some 36) :
    nrStart (p ++ s) = if 0 ≤ nrStart s then nrStart s + p.length else -1 := by
  have h := index_drop (noOcc_prefix (s := s) hp) (by simp)
  rw [List.drop_left] at h
  unfold nrStart
  rw [h]
  have hge := index_ge s [36, 123]
  by_cases hm : index s [36, 123] = -1
  · rw [if_pos (beq_iff_eq.2 hm), if_neg (by omega)]
  · rw [if_neg (fun e => hm (beq_iff_eq.1 e)), if_pos (by omega)]

theorem end_shift {p s : List UInt8} (hp : ∀ (k : Nat), p[k]? ≠ some 36) :
    nrEnd (p ++ s) = if 0 ≤ nrEnd s then nrEnd s + p.length else -1 := by
  have hs := start_shift (s := s) hp
  have hge := start_ge s
  unfold nrEnd
  rw [hs]
  by_cases h0 : 0 ≤ nrStart s
  · rw [if_pos h0]
    have e : nrClose (p ++ s) (nrStart s + p.length + 2) = nrClose s (nrStart s + 2) := by
      unfold nrClose
      have : (nrStart s + (p.length : Int) + 2).toNat = p.length + (nrStart s + 2).toNat := by omega
      rw [this, ← List.drop_drop, List.drop_left]
    rw [e, if_neg (by omega), if_neg (by omega : ¬ nrStart s < 0)]
    by_cases hc : nrClose s (nrStart s + 2) < 0
    · simp [hc]
    · rw [if_neg hc, if_neg hc, if_pos (by omega)]; omega
  · rw [if_neg h0, if_pos (by omega : (-1 : Int) < 0), if_pos (by omega : nrStart s < 0), if_neg (by omega)]

/-! ### The bounds -/
theorem start_lt (l : List UInt8) : nrStart l + 2 ≤ l.length ∨ nrStart l = -1 := by
  by_cases h : nrStart l < 0
  · right; have := start_ge l; omega
  · left
    obtain ⟨n, hn⟩ := Int.eq_ofNat_of_zero_le (by omega : 0 ≤ nrStart l)
    have := (start_occ hn).2.2
    omega

theorem close_ge (l : List UInt8) (i : Int) : -1 ≤ nrClose l i := indexByte_ge _ _

theorem close_lt (l : List UInt8) (i : Int) (h0 : 0 ≤ i) (h : i ≤ l.length) : nrClose l i + i < l.length ∨ nrClose l i = -1 := by
  unfold nrClose
  rcases indexByte_lt (l.drop i.toNat) 125 with h' | h'
  · left; simp only [List.length_drop] at h'; omega
  · right; exact h'

theorem end_bounds (l : List UInt8) : -1 ≤ nrEnd l ∧ nrEnd l ≤ l.length := by
  unfold nrEnd
  have h1 := start_ge l
  have h2 := start_lt l
  split
  · omega
  · have h3 := close_ge l (nrStart l + 2)
    have h4 := close_lt l (nrStart l + 2) (by omega) (by omega)
    split <;> omega

/-! ### What the end says -/
theorem end_none {l : List UInt8} {n : Nat} (h : nrStart l = n) (he : nrEnd l = -1) : ∀ j : Nat, n + 2 ≤ j → l[j]? ≠ some 125 := by
  unfold nrEnd at he
  have hge := close_ge l (nrStart l + 2)
  rw [if_neg (by omega)] at he
  have hc : nrClose l (nrStart l + 2) = -1 := by
    split at he
    · omega
    · omega
  unfold nrClose at hc
  have ht : (nrStart l + 2).toNat = n + 2 := by omega
  rw [ht] at hc
  intro j hj
  have := indexByte_none hc (j - (n + 2))
  rw [List.getElem?_drop] at this
  rwa [show n + 2 + (j - (n + 2)) = j by omega] at this

theorem end_some {l : List UInt8} {n : Nat} (h : nrStart l = n) (he : nrEnd l ≠ -1) :
    ∃ m : Nat, nrEnd l = (m + 1 : Nat) ∧ n + 2 ≤ m ∧ m < l.length ∧ l[m]? = some 125 ∧ ∀ j : Nat, n + 2 ≤ j → j < m → l[j]? ≠ some 125 := by
  have hs := (start_occ h).2.2
  have hlt := close_lt l (nrStart l + 2) (by omega) (by omega)
  have hge := close_ge l (nrStart l + 2)
  have hend : nrEnd l = if nrClose l (nrStart l + 2) < 0 then -1 else nrStart l + 2 + nrClose l (nrStart l + 2) + 1 := by
    unfold nrEnd; rw [if_neg (by omega)]
  by_cases hc : nrClose l (nrStart l + 2) < 0
  · rw [if_pos hc] at hend; exact absurd hend he
  · rw [if_neg hc] at hend
    obtain ⟨c, hcc⟩ := Int.eq_ofNat_of_zero_le (by omega : 0 ≤ nrClose l (nrStart l + 2))
    have hx := hcc
    unfold nrClose at hx
    have ht : (nrStart l + 2).toNat = n + 2 := by omega
    rw [ht] at hx
    obtain ⟨h1, h2⟩ := indexByte_some hx
    rw [List.getElem?_drop] at h1
    refine ⟨n + 2 + c, by omega, by omega, by omega, h1, fun j hj hjc => ?_⟩
    have := h2 (j - (n + 2)) (by omega)
    rw [List.getElem?_drop] at this
    rwa [show n + 2 + (j - (n + 2)) = j by omega] at this

end Go.Proofs.Qxb6601656a.Plain
