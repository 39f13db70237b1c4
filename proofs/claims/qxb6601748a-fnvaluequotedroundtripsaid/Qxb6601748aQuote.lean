/- The shim ZZValue (18) at a quoted text, and the laws by which the law builds its text. -/
import Derived.Test.Qxb6601748aValue
namespace Go.Proofs.Qxb6601748a
open Go.RowKit Go.Proofs.Qxb6601748a.Plain

theorem below_drawn {B : Nat} {a w : World} (h : Below B a w) (n : Nat) : Below B a (w.drewN n) := h.trans ⟨rfl, rfl, rfl, Nat.le_refl _, fun _ _ => rfl⟩

set_option maxHeartbeats 400000 in
/-- The shim ZZValue at a quoted text. -/
theorem zvalue (all : Bool) (p x r : List UInt8) (s : ByteArray) (w : World) (hs : s.size ≤ 4194304) (hxs : x.length ≤ 1048576) (hw : Hid (s.data.toList = whole all p x r)) :
    Calls Try.prog 18 #[.string s, .int .i64 p.length] w fun e w' => e = .returned (.tuple #[.string ⟨x.toArray⟩, .int .i64 (pos all p x x.length + 1)]) ∧ Below w.heap.size w w' := by
  go_enter Try.func18, Try.ntmps18
  go_wp2_with fail
  refine (value_quoted w.heap.size all p x r s _ hs hxs hw (heap_alloc_new w _)).mono ?_
  rintro e w1 ⟨rfl, hc, hb⟩
  have HB := hide hb
  clear hb
  go_wp2_with fail
  go_quiet (fail)
  go_wp2_with fail
  go_ret2
  exact ⟨rfl, below_drawn (((Below.refl _ w).alloc (Nat.le_refl _) _).trans HB.out) _⟩

/-- The slice q: v holds the bytes L in the call's own memory; nothing below B has turned. -/
def Own (B : Nat) (w : World) (v : Value) (L : List UInt8) (wr : World) : Prop := wr.ownsRow B 5 1 v L.length (Lib.byteCells L) ∧ Below B w wr ∧ B ≤ wr.heap.size

theorem own_len {B : Nat} {w : World} {v : Value} {L : List UInt8} {wr : World} (h : Own B w v L wr) : ∃ a c, v = .slice a L.length c := by
  rcases h.1.2 with ⟨hv, h0⟩ | ⟨g, cap, cur, hv, _⟩
  · exact ⟨none, 0, by rw [hv, h0]⟩
  · exact ⟨_, _, hv⟩

/-- 'q = append(q, c)'. -/
theorem append_byte {ops : Array Oper} {rest : List Oper} {o : Oper} {a : Act} {Q : Exit → Act → World → Prop} (hgd : o.guard = none) (s x : Operand)
    (ho : o.op = .call { callee := .builtin .append, args := #[s, x], argTypes := #[43, 43] }) (B : Nat) (w wr : World) (v : Value) (L : List UInt8) (c : UInt8) (z : Int) (hz : z = (c.toNat : Int))
    (hs : a.eval s = v) (hx : a.eval x = .slice (some ⟨wr.heap.size, 0, none⟩) 1 1) (h : Own B w v L wr) (hlen : L.length + 1 ≤ 8388608)
    (K : ∀ v' w2, Own B w v' (L ++ [c]) w2 → wpList Try.prog ops Q rest (a.put o.dst v') w2) : wpList Try.prog ops Q (o :: rest) a (wr.alloc (.cells #[.int .u8 z] 5)) := by
  obtain ⟨i0, hi, hz0, hz1, hz2⟩ := info_parts Try.info5
  subst hz
  obtain ⟨hown, hbel, hB⟩ := h
  refine wpList_append_own _ hgd s x 43 ho B 5 i0 (.int .u8 0) 1 1 Try.underlying43 hi hz0 hz1 hz2 rfl (by decide) v L.length (Lib.byteCells L) hs (hown.alloc _) ⟨wr.heap.size, 0, none⟩ 1 1 [.int .u8 (c.toNat : Int)] hx rfl ?_ ?_ ?_ ?_ ?_ ?_
  · intro j u hj
    match j, hj with
    | 0, hj => simp at hj; subst hj; simp [Addr.add]
  · intro u hu; simp at hu; subst hu; rfl
  · unfold maxLen; omega
  · omega
  · simp; omega
  · intro v' w2 hown' hg _
    refine K v' w2 ⟨?_, (hbel.alloc hB _).grown hg (by simp; omega) (fun k hk => (hown.lt k hk).1), by have := hg.size; simp at this; omega⟩
    have e : Lib.byteCells (L ++ [c]) = Lib.byteCells L ++ [.int .u8 (c.toNat : Int)] := by simp [Lib.byteCells]
    rw [e, List.length_append]
    exact hown'

/-- 'q = append(q, t...)', t a string. -/
theorem append_text {ops : Array Oper} {rest : List Oper} {o : Oper} {a : Act} {Q : Exit → Act → World → Prop} (hgd : o.guard = none) (s x : Operand)
    (ho : o.op = .call { callee := .builtin .append, args := #[s, x], argTypes := #[43, 9] }) (B : Nat) (w wr : World) (v : Value) (L : List UInt8) (t : ByteArray)
    (hs : a.eval s = v) (hx : a.eval x = .string t) (h : Own B w v L wr) (hlen : L.length + t.size ≤ 8388608)
    (K : ∀ v' w2, Own B w v' (L ++ t.data.toList) w2 → wpList Try.prog ops Q rest (a.put o.dst v') w2) : wpList Try.prog ops Q (o :: rest) a wr := by
  obtain ⟨i0, hi, hz0, hz1, hz2⟩ := info_parts Try.info5
  obtain ⟨hown, hbel, hB⟩ := h
  refine Lib.wpList_append_own_string _ hgd s x 43 9 ho B 5 i0 Try.underlying43 Try.underlying9 hi hz0 hz1 hz2 v L.length (Lib.byteCells L) hs hown t hx ?_ ?_ hB ?_
  · unfold maxLen; omega
  · omega
  · intro v' w2 hown' hg _
    refine K v' w2 ⟨?_, hbel.grown hg hB (fun k hk => (hown.lt k hk).1), by have := hg.size; omega⟩
    have e : Lib.byteCells (L ++ t.data.toList) = Lib.byteCells L ++ Lib.strCells t := by simp [Lib.byteCells, Lib.strCells]
    have e2 : (L ++ t.data.toList).length = L.length + t.size := by rw [List.length_append]; rfl
    rw [e, e2]
    exact hown'

/-- 'make([]byte, 0, n)'. -/
theorem make_none {ops : Array Oper} {rest : List Oper} {o : Oper} {a : Act} {Q : Exit → Act → World → Prop} (hgd : o.guard = none) (l c : Operand) (hop : o.op = Op.makeSlice 43 l c) (w : World) (C : Int) (n : Nat)
    (hl : a.eval l = .int .i64 0) (hc : a.eval c = .int .i64 C) (hC : C = (n : Int)) (hn : n ≤ 8388608)
    (K : ∀ v w2, Own w.heap.size w v [] w2 → wpList Try.prog ops Q rest (a.put o.dst v) w2) : wpList Try.prog ops Q (o :: rest) a w := by
  obtain ⟨i0, hi, hz0, hz1, hz2⟩ := info_parts Try.info5
  refine wpList_make_own _ hgd l c 43 hop w.heap.size 5 i0 (.int .u8 0) 1 Try.underlying43 hi hz0 hz1 .i64 .i64 C n hl hc hC (by rw [hz2]; omega) (by unfold maxLen; omega) (Nat.le_refl _) ?_
  intro w2 hown hg
  exact K _ w2 ⟨hown, (Below.refl _ _).grown hg (Nat.le_refl _) (by simp), hg.size⟩

end Go.Proofs.Qxb6601748a
