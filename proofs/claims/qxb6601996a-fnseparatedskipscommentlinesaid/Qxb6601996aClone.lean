/- The walk of zzClone (7). -/
import Derived.Test.Qxb6601996aShelf
import Derived.WalkKit
import Derived.WalkSpells
namespace Go.Proofs.Qxb6601996a
open Go.RowKit

theorem hide {p : Prop} (h : p) : Hid p := h
theorem Try.info5 : (Try.prog.info? 5).map (fun i => (i.zero, i.size, i.bytes)) = some (some (.int .u8 0), 1, 1) := by kernel_rfl

/-- The bytes that a slice of n elements at x holds. -/
def Cells (w : World) (x : Addr) (zs : List Int) : Prop := ∀ i, i < zs.length → w.cell? (x.add i) = some (.int .u8 (zs.getD i 0))

/-- What a clone holds behind k rounds. -/
def part (zs : List Int) (k : Nat) : List Value := (zs.take k).map (Value.int .u8) ++ List.replicate (zs.length - k) (.int .u8 0)

theorem part_set (zs : List Int) (k : Nat) (h : k < zs.length) : (part zs k).set k (.int .u8 zs[k]) = part zs (k + 1) := by
  unfold part
  apply List.ext_getElem?
  intro j
  rw [List.getElem?_set]
  by_cases hj : k = j
  · subst hj
    rw [if_pos rfl, if_pos (by simp; omega), List.getElem?_append_left (by simp; omega)]
    simp [List.getElem?_eq_getElem h]
  · rw [if_neg hj]
    by_cases hjk : j < k
    · rw [List.getElem?_append_left (by simp; omega), List.getElem?_append_left (by simp; omega)]
      simp [hjk, show j < k + 1 by omega]
    · rw [List.getElem?_append_right (by simp; omega), List.getElem?_append_right (by simp; omega)]
      simp only [List.length_map, List.length_take, List.getElem?_replicate]
      by_cases hjz : j < zs.length
      · rw [if_pos (by omega), if_pos (by omega)]
      · rw [if_neg (by omega), if_neg (by omega)]

theorem part_zero (zs : List Int) : part zs 0 = List.replicate zs.length (.int .u8 0) := by simp [part]
theorem part_all (zs : List Int) : part zs zs.length = zs.map (Value.int .u8) := by simp [part]

theorem clone_nil (w : World) : Calls Try.prog 7 #[.slice none 0 0] w fun e w' => e = .returned (.slice none 0 0) ∧ w' = w := by
  have hnil := fun (wx : World) (a : Option Addr) (l c : Nat) => Lib.run_eql_slice_nil (P := Try.prog) wx 22 5 a l c 0 0 Try.underlying22
  go_enter Try.func7, Try.ntmps7
  go_wp2
  go_ret
  exact ⟨rfl, rfl⟩

set_option maxHeartbeats 400000 in
theorem clone_some (x : Addr) (c : Nat) (zs : List Int) (w : World) (hn : zs.length ≤ 1048576) (hc : Hid (Cells w x zs)) :
    Calls Try.prog 7 #[.slice (some x) zs.length c] w fun e w' => e = .returned (.slice (some ⟨w.heap.size, 0, none⟩) zs.length zs.length) ∧
      w'.ownsRow w.heap.size 5 1 (.slice (some ⟨w.heap.size, 0, none⟩) zs.length zs.length) zs.length (zs.map (Value.int .u8)) ∧ Below w.heap.size w w' := by
  have hnil := fun (wx : World) (a : Option Addr) (l c : Nat) => Lib.run_eql_slice_nil (P := Try.prog) wx 22 5 a l c 0 0 Try.underlying22
  obtain ⟨i0, hi, hz0, hz1, hz2⟩ := info_parts Try.info5
  have hb0 : i0.bytes * zs.length ≤ 281474976710656 := by rw [hz2]; omega
  have hml : zs.length ≤ maxLen := by unfold maxLen; omega
  go_enter Try.func7, Try.ntmps7
  go_wp2_with (at_make; refine wpList_make_full _ rfl _ _ 22 rfl w.heap.size 5 i0 (.int .u8 0) 1 Try.underlying22 hi hz0 hz1 .i64 .i64 _ _ zs.length rfl rfl rfl rfl hb0 hml (Nat.le_refl _) ?_; intro w1 hown hgrow)
  have hown0 : w1.ownsRow w.heap.size 5 1 (.slice (some ⟨w.heap.size, 0, none⟩) zs.length zs.length) zs.length (part zs 0) := by
    have e : (madeCells (Value.int .u8 0).cells (zs.length * 1)).toList = part zs 0 := by
      rw [part_zero, Nat.mul_one]; exact toList_madeCells_one _ _
    rw [e] at hown; exact hown
  have hb1 : Below w.heap.size w w1 := (Below.refl _ _).grown hgrow (Nat.le_refl _) (by simp)
  clear hown hgrow hnil
  go_loopw [4] (fun i wr => ∃ k : Nat, k ≤ zs.length ∧ i = .int .i64 k ∧ wr.ownsRow w.heap.size 5 1 (.slice (some ⟨w.heap.size, 0, none⟩) zs.length zs.length) zs.length (part zs k) ∧ Below w.heap.size w wr) (fun i _ => zs.length - (RowKit.intOf i).toNat)
  case atStart => exact ⟨0, Nat.zero_le _, rfl, hown0, hb1⟩
  case round =>
    clear hown0 hb1
    obtain ⟨k, hk, rfl, hown, hbel⟩ := hrel
    by_cases hlt : k < zs.length
    · have hcx : wr.cell? (x.add k) = some (.int .u8 zs[k]) := by
        have h0 := hc.out k hlt
        rw [show zs.getD k 0 = zs[k] by simp [List.getD, List.getElem?_eq_getElem hlt]] at h0
        exact (hbel.cell (World.block_lt_of_cell? w _ h0)).trans h0
      have hcy : ∃ v, wr.cell? ⟨w.heap.size, k, none⟩ = some v := by
        rw [hown.cellAt k (by omega)]
        exact ⟨_, List.getElem?_eq_getElem (by rw [hown.1]; omega)⟩
      obtain ⟨v0, hcy⟩ := hcy
      have hfy := hown.frozenAt k
      have R := hown.stored k (.int .u8 zs[k])
      rw [part_set zs k hlt] at R
      have HR := hide R
      have HO := hide hown
      clear R hown
      go_wp2
      go_roundw
      case rel => exact ⟨k + 1, by omega, by go_num, HR.out.1, hbel.setCell (Nat.le_refl _) _⟩
      case measure => simp [RowKit.intOf]; omega
    · have e : k = zs.length := by omega
      subst e
      rw [part_all] at hown
      go_wp2
      go_ret
      exact ⟨rfl, hown, hbel⟩

/-- A slice of bytes as it comes in, or as a clone is: nil, or an address at which the bytes lie. -/
def Rows2 (w : World) (a : Option Addr) (c : Nat) (zs : List Int) : Prop := (a = none ∧ c = 0 ∧ zs = []) ∨ ∃ x, a = some x ∧ Cells w x zs

/-- What a clone is: nil, or a whole block of the call's own. -/
def Cloned (B : Nat) (w : World) (a : Option Addr) (c : Nat) (zs : List Int) : Prop := (a = none ∧ c = 0 ∧ zs = []) ∨ ∃ g, a = some ⟨g, 0, none⟩ ∧ c = zs.length ∧ B ≤ g ∧ g < w.heap.size ∧ Cells w ⟨g, 0, none⟩ zs

theorem Cloned.rows {B : Nat} {w : World} {a : Option Addr} {c : Nat} {zs : List Int} (h : Cloned B w a c zs) : Rows2 w a c zs := by
  rcases h with h | ⟨g, h1, _, _, _, h5⟩
  · exact Or.inl h
  · exact Or.inr ⟨_, h1, h5⟩

theorem Cloned.keep {B B' : Nat} {w w' : World} {a : Option Addr} {c : Nat} {zs : List Int} (h : Cloned B w a c zs) (hb : Below B' w w') (hB : w.heap.size ≤ B') : Cloned B w' a c zs := by
  rcases h with h | ⟨g, h1, h2, h3, h4, h5⟩
  · exact Or.inl h
  · refine Or.inr ⟨g, h1, h2, h3, by have := hb.size; omega, fun i hi => ?_⟩
    have h0 := h5 i hi
    exact (hb.cell (Nat.lt_of_lt_of_le (World.block_lt_of_cell? w _ h0) hB)).trans h0

theorem Rows2.keep {B' : Nat} {w w' : World} {a : Option Addr} {c : Nat} {zs : List Int} (h : Rows2 w a c zs) (hb : Below B' w w') (hB : w.heap.size ≤ B') : Rows2 w' a c zs := by
  rcases h with h | ⟨x, h1, h5⟩
  · exact Or.inl h
  · refine Or.inr ⟨x, h1, fun i hi => ?_⟩
    have h0 := h5 i hi
    exact (hb.cell (Nat.lt_of_lt_of_le (World.block_lt_of_cell? w _ h0) hB)).trans h0

/-- The clone of whatever came in. -/
theorem clone_any (a : Option Addr) (c : Nat) (zs : List Int) (w : World) (hn : zs.length ≤ 1048576) (h : Rows2 w a c zs) :
    Calls Try.prog 7 #[.slice a zs.length c] w fun e w' => ∃ a' c', e = .returned (.slice a' zs.length c') ∧ Cloned w.heap.size w' a' c' zs ∧ Below w.heap.size w w' := by
  rcases h with ⟨rfl, rfl, rfl⟩ | ⟨x, rfl, hx⟩
  · refine (clone_nil w).mono ?_
    rintro e w' ⟨rfl, rfl⟩
    exact ⟨none, 0, rfl, Or.inl ⟨rfl, rfl, rfl⟩, Below.refl _ _⟩
  · refine (clone_some x c zs w hn hx).mono ?_
    rintro e w' ⟨rfl, hown, hb⟩
    refine ⟨_, _, rfl, Or.inr ⟨w.heap.size, rfl, rfl, Nat.le_refl _, (hown.lt _ rfl).2, fun i hi => ?_⟩, hb⟩
    have := hown.cells (g := w.heap.size) rfl i (.int .u8 (zs.getD i 0)) (by simp [List.getD, List.getElem?_eq_getElem hi])
    exact this

end Go.Proofs.Qxb6601996a
