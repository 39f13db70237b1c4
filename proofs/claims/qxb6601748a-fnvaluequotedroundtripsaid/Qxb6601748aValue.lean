/- The walks of headerParser.next (28) and of headerParser.value (25) at a quoted text. -/
import Derived.Test.Qxb6601748aBuild
import Derived.Test.Qxb6601748aPlain
import Derived.BigQuiet
namespace Go.Proofs.Qxb6601748a
open Go.RowKit Go.Proofs.Qxb6601748a.Plain

set_option maxHeartbeats 400000 in
/-- next, where the byte stands. -/
theorem next_yes (hp at_ : Nat) (s : ByteArray) (c : Int) (w : World) (h : at_ < s.size) (hs : s.size ≤ 4194304)
    (c0 : w.cell? ⟨hp, 0, none⟩ = some (.string s)) (c1 : w.cell? ⟨hp, 1, none⟩ = some (.int .i64 at_)) (f1 : w.frozen? ⟨hp, 1, none⟩ = false)
    (he : ((s[at_].toNat : Int) == c) = true) :
    Calls Try.prog 28 #[.pointer (some ⟨hp, 0, none⟩), .int .u8 c] w fun e w' => e = .returned (.bool true) ∧ ∃ n, w' = (w.setCell ⟨hp, 1, none⟩ (.int .i64 (at_ + 1))).drewN n := by
  go_enter Try.func28, Try.ntmps28
  go_wp2_with fail
  go_quiet (fail)
  go_wp2
  go_ret
  exact ⟨rfl, _, rfl⟩

/-- The parser's block and the builder, in the loop: i: where the parser stands; l: what has been written. -/
def St (hp B : Nat) (s : ByteArray) (i : Nat) (l : List UInt8) (w wr : World) : Prop :=
  wr.heap[hp]? = some (.cells #[.string s, .int .i64 i] 50 (0, 0)) ∧ Lib.IsBuilder 58 5 B B (Lib.byteCells l) wr ∧ Below hp w wr ∧ hp < B ∧ B ≤ wr.heap.size

/-- Where the parser stands, read off the world: the loop's measure. -/
def atOf (hp : Nat) (w : World) : Nat := match w.cell? ⟨hp, 1, none⟩ with | some (.int _ q) => q.toNat | _ => 0

section
variable {hp B : Nat} {s : ByteArray} {i : Nat} {l : List UInt8} {w wr : World}

theorem St.cell0 (h : St hp B s i l w wr) : wr.cell? ⟨hp, 0, none⟩ = some (.string s) := by rw [Lib.cell_of_heap h.1]; rfl
theorem St.cell1 (h : St hp B s i l w wr) : wr.cell? ⟨hp, 1, none⟩ = some (.int .i64 i) := by rw [Lib.cell_of_heap h.1]; rfl
theorem St.free1 (h : St hp B s i l w wr) : wr.frozen? ⟨hp, 1, none⟩ = false := Lib.frozen_of_heap h.1 1
theorem St.atOf (h : St hp B s i l w wr) : atOf hp wr = i := by unfold Qxb6601748a.atOf; rw [h.cell1]; rfl
theorem St.draw (h : St hp B s i l w wr) (n : Nat) : St hp B s i l w (wr.drewN n) := ⟨h.1, h.2.1, h.2.2.1.trans ⟨rfl, rfl, rfl, Nat.le_refl _, fun _ _ => rfl⟩, h.2.2.2⟩

theorem isBuilder_low {T e : TypeId} {b : Nat} {bs : List Value} (h : Lib.IsBuilder T e B b bs wr) {a : Addr} (ha : a.block < B) (u : Value) : Lib.IsBuilder T e B b bs (wr.setCell a u) := by
  rcases h with ⟨hB, v, hb, hown, hne⟩ | ⟨hB, v, hb, hown, hne⟩
  · exact Or.inl ⟨hB, v, by rw [heap_setCell_other _ _ _ _ (by omega)]; exact hb, ownsRow_setCell_below hown ha u, hne⟩
  · exact Or.inr ⟨hB, v, by rw [heap_setCell_other _ _ _ _ (by omega)]; exact hb, ownsRow_setCell_below hown ha u, hne⟩

theorem St.move (h : St hp B s i l w wr) (i' : Nat) : St hp B s i' l w (wr.setCell ⟨hp, 1, none⟩ (.int .i64 i')) := by
  refine ⟨?_, isBuilder_low h.2.1 h.2.2.2.1 _, h.2.2.1.setCell (Nat.le_refl _) _, h.2.2.2.1, by have := h.2.2.2.2; simpa [World.setCell] using this⟩
  rw [heap_setCell_same _ _ _ _ _ _ h.1]
  rfl

theorem St.drew1 (h : St hp B s i l w wr) : St hp B s i l w wr.drew := ⟨h.1, h.2.1, h.2.2.1.drew, h.2.2.2⟩

/-- 'p.at++', between draws. -/
theorem St.step (h : St hp B s i l w wr) (a b : Nat) : St hp B s (i + 1) l w (((wr.drewN a).setCell ⟨hp, 1, none⟩ (.int .i64 ((i : Int) + 1))).drewN b) := by
  have := ((h.draw a).move (i + 1)).draw b
  rwa [show (((i + 1 : Nat) : Int)) = (i : Int) + 1 by omega] at this

theorem St.step1 (h : St hp B s i l w wr) (a : Nat) : St hp B s (i + 1) l w ((wr.drewN a).setCell ⟨hp, 1, none⟩ (.int .i64 ((i : Int) + 1))) := by
  have := (h.draw a).move (i + 1)
  rwa [show (((i + 1 : Nat) : Int)) = (i : Int) + 1 by omega] at this

theorem St.write {w2 : World} {c : UInt8} (h : St hp B s i l w wr) (hb : Lib.BuilderAt 58 5 B B (.pointer (some ⟨B, 0, none⟩)) (Lib.byteCells l ++ [.int .u8 c.toNat]) w2) (hbel : Below B wr w2) : St hp B s i (l ++ [c]) w w2 := by
  refine ⟨by rw [hbel.block hp h.2.2.2.1]; exact h.1, Or.inr ?_, h.2.2.1.trans (hbel.mono (by have := h.2.2.2.1; omega)), h.2.2.2.1, by have := hbel.size; have := h.2.2.2.2; omega⟩
  have : Lib.byteCells (l ++ [c]) = Lib.byteCells l ++ [.int .u8 c.toNat] := by simp [Lib.byteCells]
  rw [this]
  exact hb
end

theorem byte_at (s : ByteArray) {k : Nat} {c : UInt8} (h : k < s.size) (e : s.data.toList[k]? = some c) : s[k] = c := by
  have h' : s.data.toList[k]? = some s[k] := List.getElem?_eq_getElem (l := s.data.toList) (i := k) h
  rw [h'] at e
  exact Option.some.inj e

theorem lt_of_get {s : ByteArray} {k : Nat} {c : UInt8} (e : s.data.toList[k]? = some c) : k < s.size := by
  by_cases h : k < s.size
  · exact h
  · rw [List.getElem?_eq_none (Nat.le_of_not_lt h)] at e; cases e

theorem st_start {hp q : Nat} {s : ByteArray} {w : World} (hb : w.heap[hp]? = some (.cells #[.string s, .int .i64 q] 50 (0, 0))) (n : Nat) :
    St hp w.heap.size s (q + 1) [] w (((w.setCell ⟨hp, 1, none⟩ (.int .i64 ((q : Int) + 1))).drewN n).alloc (.cells #[.pointer none, .slice none 0 0] 58)) := by
  have hlt : hp < w.heap.size := by
    rcases Nat.lt_or_ge hp w.heap.size with h' | h'
    · exact h'
    · simp [Array.getElem?_eq_none h'] at hb
  have hz : ((w.setCell ⟨hp, 1, none⟩ (.int .i64 ((q : Int) + 1))).drewN n).heap.size = w.heap.size := by simp [World.setCell, World.drewN]
  refine ⟨?_, ?_, ?_, hlt, by simp [World.setCell]⟩
  · rw [Below.heap_alloc _ _ _ (by rw [hz]; exact hlt)]
    have := heap_setCell_same w hp 1 _ _ (.int .i64 ((q : Int) + 1)) hb
    exact this
  · have := Lib.fresh_isBuilder 58 5 ((w.setCell ⟨hp, 1, none⟩ (.int .i64 ((q : Int) + 1))).drewN n)
    rw [hz] at this
    exact this
  · exact ((((Below.refl hp w).setCell (p := ⟨hp, 1, none⟩) (Nat.le_refl _) _).trans ⟨rfl, rfl, rfl, Nat.le_refl _, fun _ _ => rfl⟩ : Below hp w ((w.setCell ⟨hp, 1, none⟩ (.int .i64 ((q : Int) + 1))).drewN n))).alloc (by rw [hz]; omega) _

set_option maxHeartbeats 2000000 in
/-- value, at a quoted text: it reads x, and stands just behind the closing quote. -/
theorem value_quoted (hp : Nat) (all : Bool) (p x r : List UInt8) (s : ByteArray) (w : World) (hs : s.size ≤ 4194304) (hxs : x.length ≤ 1048576) (hw : Hid (s.data.toList = whole all p x r))
    (hb : w.heap[hp]? = some (.cells #[.string s, .int .i64 p.length] 50 (0, 0))) :
    Calls Try.prog 25 #[.pointer (some ⟨hp, 0, none⟩)] w fun e w' => e = .returned (.string ⟨x.toArray⟩) ∧ w'.cell? ⟨hp, 1, none⟩ = some (.int .i64 (pos all p x x.length + 1)) ∧ Below hp w w' := by
  have c0 : w.cell? ⟨hp, 0, none⟩ = some (.string s) := by rw [Lib.cell_of_heap hb]; rfl
  have c1 : w.cell? ⟨hp, 1, none⟩ = some (.int .i64 p.length) := by rw [Lib.cell_of_heap hb]; rfl
  have f1 : w.frozen? ⟨hp, 1, none⟩ = false := Lib.frozen_of_heap hb 1
  have g0 : s.data.toList[p.length]? = some 34 := by rw [hw.out]; exact whole_open all p x r
  have hlt0 := lt_of_get g0
  have e0 : ((s[p.length].toNat : Int) == 34) = true := by rw [byte_at s hlt0 g0]; rfl
  have hnext := next_yes hp p.length s 34 w hlt0 hs c0 c1 f1 e0
  have Hnext := hide hnext
  have Hb := hide hb
  clear hnext hb c0 c1 f1 g0 e0
  go_enter Try.func25, Try.ntmps25
  go_wp2_with fail
  refine Hnext.out.mono ?_
  rintro e w1 ⟨rfl, n1, rfl⟩
  clear Hnext
  go_wp2_with fail
  have hst := hide (st_start Hb.out n1)
  clear Hb
  go_loopw [4] (fun _ wr => ∃ k : Nat, k ≤ x.length ∧ St hp w.heap.size s (pos all p x k) (x.take k) w wr) (fun _ wr => s.size - atOf hp wr)
  case atStart => exact ⟨0, Nat.zero_le _, by rw [pos_zero]; exact hst.out⟩
  case round =>
    clear hst hlt0
    obtain ⟨k, hk, hst⟩ := hrel
    have HS := hide hst
    have d0 := hst.cell0
    have d1 := hst.cell1
    have f1 := hst.free1
    clear hst
    by_cases hkx : k < x.length
    · have hps0 := pos_succ all p x k hkx
      by_cases he : esc all x[k] = true
      · obtain ⟨g1, g2⟩ := whole_esc all p x r k hkx he
        rw [← hw.out] at g1 g2
        have l2 := lt_of_get g2
        have l1 := lt_of_get g1
        have b1 := byte_at s l1 g1
        have b2 := byte_at s l2 g2
        rw [if_pos he] at hps0
        have hps := hide hps0
        clear hps0
        have Htk := hide (take_snoc x k hkx)
        have Hb2 := hide b2
        have t34 : ((s[pos all p x k].toNat : Int) == 34) = false := by rw [b1]; rfl
        have t92 : ((s[pos all p x k].toNat : Int) == 92) = true := by rw [b1]; rfl
        clear g1 g2 b1 b2 he hw
        generalize pos all p x k = i at *
        have hg : decide ((i : Int) + 1 < s.size) = true := decide_eq_true (by omega)
        go_wp2_with fail
        go_quiet (fail)
        go_wp2_with fail
        go_quiet (fail)
        go_wp2_with fail
        go_quiet (fail)
        go_wp2_with fail
        have hxl : (Lib.byteCells (x.take k)).length + 1 ≤ 140737488355328 := by
          rw [Lib.byteCells_length, List.length_take]; have := hxs; omega
        have S1 := fun a b => HS.out.step a b
        rename_i nqa nqb _ _
        have S2 := S1 (nqa + nqb) nq
        generalize ((wr.drewN (nqa + nqb)).setCell ⟨hp, 1, none⟩ (.int .i64 ((i : Int) + 1))).drewN nq = W at *
        have e0 := S2.cell0
        have e1 : W.cell? ⟨hp, 1, none⟩ = some (.int .i64 ((i : Int) + 1)) := by rw [S2.cell1]; go_num
        have HS2 := hide S2
        clear S1 S2 d0 d1 f1
        go_region_with (go_at_call 31; refine (writeByte w.heap.size w.heap.size (Lib.byteCells (x.take k)) _ _ ?_ hxl ?_).mono ?_; exact HS2.out.drew1.2.1; exact HS2.out.drew1.2.2.2.2; rintro e w2 ⟨rfl, hbu, hbel⟩)
        all_goals
          have S3 := HS2.out.drew1.write (c := s[i + 1]) hbu hbel
          have e0 := S3.cell0
          have e1 : w2.cell? ⟨hp, 1, none⟩ = some (.int .i64 ((i : Int) + 1)) := by rw [S3.cell1]; go_num
          have f1 := S3.free1
          have HS3 := hide S3
          clear S3 hbu hbel
          go_wp2
          have S4 := HS3.out.move (i + 1 + 1)
          rw [show (((i + 1 + 1 : Nat) : Int)) = (i : Int) + 1 + 1 by omega] at S4
          have HS4 := hide S4
          clear S4
          go_roundw
          case rel => exact ⟨k + 1, by omega, by rw [hps.out, Htk.out, ← Hb2.out]; exact HS4.out⟩
          case measure => rw [HS4.out.atOf, HS.out.atOf]; omega
      · have he' : esc all x[k] = false := by simpa using he
        have g1 := whole_plain all p x r k hkx he'
        rw [← hw.out] at g1
        have l1 := lt_of_get g1
        have b1 := byte_at s l1 g1
        obtain ⟨_, n34, n92⟩ := esc_false he'
        rw [if_neg (by rw [he']; exact Bool.false_ne_true)] at hps0
        have hps := hide hps0
        clear hps0
        have Htk := hide (take_snoc x k hkx)
        have Hb1 := hide b1
        have t34 : ((s[pos all p x k].toNat : Int) == 34) = false := by
          rw [b1, beq_eq_false_iff_ne]; intro e; exact n34 (UInt8.toNat_inj.1 (Int.ofNat.inj e))
        have t92 : ((s[pos all p x k].toNat : Int) == 92) = false := by
          rw [b1, beq_eq_false_iff_ne]; intro e; exact n92 (UInt8.toNat_inj.1 (Int.ofNat.inj e))
        clear g1 b1 n34 n92 he he' hw
        generalize pos all p x k = i at *
        go_wp2_with fail
        go_quiet (fail)
        go_wp2_with fail
        go_quiet (fail)
        go_wp2_with fail
        go_quiet (fail)
        go_wp2_with fail
        have hxl : (Lib.byteCells (x.take k)).length + 1 ≤ 140737488355328 := by
          rw [Lib.byteCells_length, List.length_take]; have := hxs; omega
        have S1 := fun a b => HS.out.step a b
        refine (writeByte w.heap.size w.heap.size _ _ _ (S1 _ _).2.1 hxl (S1 _ _).2.2.2.2).mono ?_
        rintro e w2 ⟨rfl, hbu, hbel⟩
        have S2 := (S1 _ _).write (c := s[i]) hbu hbel
        have HS2 := hide S2
        clear S2 S1 hbu hbel
        go_wp2_with fail
        go_roundw
        case rel => exact ⟨k + 1, by omega, by rw [hps.out, Htk.out, ← Hb1.out]; exact HS2.out⟩
        case measure => rw [HS2.out.atOf, HS.out.atOf]; omega
    · have hkn : k = x.length := by omega
      subst hkn
      have g1 := whole_close all p x r
      rw [← hw.out] at g1
      have l1 := lt_of_get g1
      have b1 := byte_at s l1 g1
      have t34 : ((s[pos all p x x.length].toNat : Int) == 34) = true := by rw [b1]; rfl
      clear g1 b1 hw
      rw [List.take_length] at HS
      generalize hi : pos all p x x.length = i at *
      have Hi := hide hi
      clear hi
      go_wp2_with fail
      go_quiet (fail)
      go_wp2_with fail
      go_quiet (fail)
      go_wp2_with fail
      have S1 := fun a => HS.out.step1 a
      refine (Try.Builder_String_any w.heap.size w.heap.size x _ (S1 _).2.1 (S1 _).2.2.2.2).mono ?_
      rintro e w2 ⟨rfl, hbel⟩
      have c9 : w2.cell? ⟨hp, 1, none⟩ = some (.int .i64 ((i : Int) + 1)) := by
        rw [hbel.cell (p := ⟨hp, 1, none⟩) HS.out.2.2.2.1, (S1 _).cell1]
        go_num
      have hb9 : Below hp w w2 := (S1 _).2.2.1.trans (hbel.mono (by have := HS.out.2.2.2.1; omega))
      have C9 := hide c9
      have B9 := hide hb9
      clear c9 hb9 S1 hbel
      go_wp2_with fail
      go_ret
      exact ⟨rfl, by rw [Hi.out]; exact C9.out, B9.out⟩
end Go.Proofs.Qxb6601748a
