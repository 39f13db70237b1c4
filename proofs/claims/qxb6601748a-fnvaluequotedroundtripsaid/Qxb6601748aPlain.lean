/- Plain facts on a quoted value: no Go in sight. -/
import Derived.Lib.IndexLaws
namespace Go.Proofs.Qxb6601748a.Plain

/-- Is this byte written behind a backslash? -/
def esc (all : Bool) (c : UInt8) : Bool := all || c == 34 || c == 92

/-- One byte, quoted. -/
def enc1 (all : Bool) (c : UInt8) : List UInt8 := if esc all c then [92, c] else [c]

/-- All bytes, quoted. -/
def encL (all : Bool) (x : List UInt8) : List UInt8 := (x.map (enc1 all)).flatten

theorem encL_nil (all : Bool) : encL all [] = [] := rfl

theorem encL_append (all : Bool) (x y : List UInt8) : encL all (x ++ y) = encL all x ++ encL all y := by simp [encL]

theorem encL_snoc (all : Bool) (x : List UInt8) (c : UInt8) : encL all (x ++ [c]) = encL all x ++ enc1 all c := by simp [encL]

theorem enc1_len (all : Bool) (c : UInt8) : (enc1 all c).length = if esc all c then 2 else 1 := by unfold enc1; split <;> rfl

theorem encL_le (all : Bool) (x : List UInt8) : (encL all x).length ≤ 2 * x.length := by
  induction x with
  | nil => simp [encL]
  | cons c l ih =>
    have e : encL all (c :: l) = enc1 all c ++ encL all l := by simp [encL]
    rw [e, List.length_append, enc1_len, List.length_cons]
    split <;> omega

theorem take_snoc (x : List UInt8) (k : Nat) (h : k < x.length) : x.take (k + 1) = x.take k ++ [x[k]] := List.take_succ_eq_append_getElem h

/-- The whole text. -/
def whole (all : Bool) (p x r : List UInt8) : List UInt8 := p ++ 34 :: encL all x ++ 34 :: r

/-- Where the reader stands behind k bytes of x. -/
def pos (all : Bool) (p x : List UInt8) (k : Nat) : Nat := p.length + 1 + (encL all (x.take k)).length

theorem pos_zero (all : Bool) (p x : List UInt8) : pos all p x 0 = p.length + 1 := by simp [pos, encL]

theorem pos_succ (all : Bool) (p x : List UInt8) (k : Nat) (h : k < x.length) : pos all p x (k + 1) = pos all p x k + (if esc all x[k] then 2 else 1) := by
  unfold pos
  rw [take_snoc x k h, encL_snoc, List.length_append, enc1_len]
  omega

theorem whole_len (all : Bool) (p x r : List UInt8) : (whole all p x r).length = p.length + 1 + (encL all x).length + 1 + r.length := by
  simp [whole]; omega

theorem whole_open (all : Bool) (p x r : List UInt8) : (whole all p x r)[p.length]? = some 34 := by
  simp [whole]

theorem whole_split (all : Bool) (p x r : List UInt8) (k : Nat) (h : k < x.length) :
    whole all p x r = (p ++ 34 :: encL all (x.take k)) ++ (enc1 all x[k] ++ (encL all (x.drop (k + 1)) ++ 34 :: r)) := by
  have e : x = x.take k ++ x[k] :: x.drop (k + 1) := by rw [← List.drop_eq_getElem_cons h, List.take_append_drop]
  have e2 : encL all x = encL all (x.take k) ++ (enc1 all x[k] ++ encL all (x.drop (k + 1))) := by
    have e3 : encL all (x[k] :: x.drop (k + 1)) = enc1 all x[k] ++ encL all (x.drop (k + 1)) := rfl
    rw [← e3, ← encL_append, ← e]
  unfold whole
  rw [e2]
  simp

theorem whole_plain (all : Bool) (p x r : List UInt8) (k : Nat) (h : k < x.length) (he : esc all x[k] = false) :
    (whole all p x r)[pos all p x k]? = some x[k] := by
  rw [whole_split all p x r k h]
  have hl : (p ++ 34 :: encL all (x.take k)).length = pos all p x k := by simp [pos]; omega
  rw [List.getElem?_append_right (by omega), hl, Nat.sub_self]
  simp [enc1, he]

theorem whole_esc (all : Bool) (p x r : List UInt8) (k : Nat) (h : k < x.length) (he : esc all x[k] = true) :
    (whole all p x r)[pos all p x k]? = some 92 ∧ (whole all p x r)[pos all p x k + 1]? = some x[k] := by
  rw [whole_split all p x r k h]
  have hl : (p ++ 34 :: encL all (x.take k)).length = pos all p x k := by simp [pos]; omega
  constructor
  · rw [List.getElem?_append_right (by omega), hl, Nat.sub_self]
    simp [enc1, he]
  · rw [List.getElem?_append_right (by omega), hl, show pos all p x k + 1 - pos all p x k = 1 by omega]
    simp [enc1, he]

theorem whole_close (all : Bool) (p x r : List UInt8) : (whole all p x r)[pos all p x x.length]? = some 34 := by
  have hl : (p ++ 34 :: encL all x).length = pos all p x x.length := by simp [pos]; omega
  unfold whole
  rw [List.getElem?_append_right (by omega), hl, Nat.sub_self]
  rfl

theorem pos_all (all : Bool) (p x : List UInt8) : pos all p x x.length = p.length + 1 + (encL all x).length := by simp [pos]

theorem esc_false {all : Bool} {c : UInt8} (h : esc all c = false) : all = false ∧ c ≠ 34 ∧ c ≠ 92 := by
  simpa [esc, and_assoc] using h

end Go.Proofs.Qxb6601748a.Plain
