/- The walks of (*strings.Builder).copyCheck (34) and WriteByte (31): the shelf's contracts do not lie at this dump (its copyCheck bears a statement that the model refuses where the shelf's has a panic), so they are walked here, after the shelf's own proofs. -/
import Derived.Test.Qxb6601748aShelf
import Derived.WalkKit
import Derived.WalkSpells
namespace Go.Proofs.Qxb6601748a
open Go.RowKit

theorem hide {p : Prop} (h : p) : Hid p := h

theorem Try.info5 : (Try.prog.info? 5).map (fun i => (i.zero, i.size, i.bytes)) = some (some (.int .u8 0), 1, 1) := by kernel_rfl

/-- A run that only looks at the program and at the shape of blocks, each answered by s0: its value, and the blocks that it asked for. -/
def looks (p : Program) (s0 : Option (TypeId × Nat)) : Nat → Sem Value → Option (Value × List Nat)
  | 0, _ => none
  | _ + 1, .pure v => some (v, [])
  | n + 1, .shape r k => (looks p s0 n (k s0)).map fun a => (a.1, r :: a.2)
  | n + 1, .program k => looks p s0 n (k p)
  | _ + 1, _ => none

theorem run_of_looks (p : Program) (s0 : Option (TypeId × Nat)) (w : World) : ∀ (n : Nat) (s : Sem Value) (v : Value) (rs : List Nat), looks p s0 n s = some (v, rs) → (∀ r ∈ rs, w.shape? r = s0) → s.run p w = .ok v w := by
  intro n
  induction n with
  | zero => intro s v rs h; simp [looks] at h
  | succ n ih =>
    intro s v rs h hr
    cases s with
    | pure a =>
      simp only [looks, Option.some.injEq, Prod.mk.injEq] at h
      rw [← h.1]; rfl
    | shape r k =>
      simp only [looks, Option.map_eq_some_iff, Prod.mk.injEq] at h
      obtain ⟨a, ha, h1, h2⟩ := h
      subst h1 h2
      have h3 := ih (k s0) a.1 a.2 ha (fun x hx => hr x (List.mem_cons_of_mem _ hx))
      show (k (w.shape? r)).run p w = _
      rw [hr r (List.mem_cons_self ..)]
      exact h3
    | program k => exact ih (k p) v rs h hr
    | _ => simp [looks] at h

theorem conv_there (b : Nat) (w : World) (hsh : w.shape? b = some (58, 2)) : (convert 56 64 (.pointer (some ⟨b, 0, none⟩))).run Try.prog w = .ok (.pointer (some ⟨b, 0, none⟩)) w := by
  have h : looks Try.prog (some (58, 2)) 30 (convert 56 64 (.pointer (some ⟨b, 0, none⟩))) = some (.pointer (some ⟨b, 0, none⟩), [b, b]) := by kernel_rfl
  exact run_of_looks _ _ w _ _ _ _ h (by intro r hr; simp at hr; subst hr; exact hsh)

theorem conv_back (b : Nat) (w : World) (hsh : w.shape? b = some (58, 2)) : (convert 64 56 (.pointer (some ⟨b, 0, none⟩))).run Try.prog w = .ok (.pointer (some ⟨b, 0, none⟩)) w := by
  have h : looks Try.prog (some (58, 2)) 30 (convert 64 56 (.pointer (some ⟨b, 0, none⟩))) = some (.pointer (some ⟨b, 0, none⟩), [b, b]) := by kernel_rfl
  exact run_of_looks _ _ w _ _ _ _ h (by intro r hr; simp at hr; subst hr; exact hsh)

theorem copyCheck_used (b : Nat) (w : World) (h0 : w.cell? ⟨b, 0, none⟩ = some (.pointer (some ⟨b, 0, none⟩))) :
    Calls Try.prog 34 #[.pointer (some ⟨b, 0, none⟩)] w fun e w' => e = .returned (.tuple #[]) ∧ w' = w := by
  obtain ⟨j, hj, _⟩ := Option.map_eq_some_iff.1 Try.Builder_Extra_169.sizeBuilder
  go_enter Try.func34, Try.ntmps34
  go_wp2
  rw [Lib.run_neq_ptr_same w _ Try.underlying56 hj]
  go_wp2
  go_end0
  exact ⟨rfl, rfl⟩

theorem copyCheck_fresh (b : Nat) (w : World) (h0 : w.cell? ⟨b, 0, none⟩ = some (.pointer none)) (hsh : w.shape? b = some (58, 2)) (hfz : w.frozen? ⟨b, 0, none⟩ = false) :
    Calls Try.prog 34 #[.pointer (some ⟨b, 0, none⟩)] w fun e w' => e = .returned (.tuple #[]) ∧ w' = w.setCell ⟨b, 0, none⟩ (.pointer (some ⟨b, 0, none⟩)) := by
  go_enter Try.func34, Try.ntmps34
  go_wp2
  rw [conv_there b w hsh]
  simp only [Result.andThen]
  rw [Oper.upon_value]
  go_wp2
  rw [run_callFunc_extern Try.func36 (by kernel_rfl) (by kernel_rfl) (by kernel_rfl) (e := Extern.AbiNoEscape.same) (by kernel_rfl)]
  rw [Lib.run_noEscape]
  simp only [Result.andThen]
  rw [Oper.upon_value]
  go_wp2
  rw [conv_back b w hsh]
  simp only [Result.andThen]
  rw [Oper.upon_value]
  go_wp2
  go_end0
  exact ⟨rfl, rfl⟩

theorem copyCheck (B b : Nat) (bs : List Value) (w : World) (h : Lib.IsBuilder 58 5 B b bs w) :
    Calls Try.prog 34 #[.pointer (some ⟨b, 0, none⟩)] w fun e w' => e = .returned (.tuple #[]) ∧ (Lib.BuilderAt 58 5 B b (.pointer (some ⟨b, 0, none⟩)) bs w' ∧ Below B w w') := by
  rcases h with h | h
  · refine (copyCheck_fresh b w h.cell0 h.shape h.frozen0).mono ?_
    rintro e w' ⟨rfl, rfl⟩
    exact ⟨rfl, h.used _, (Below.refl B w).setCell (p := ⟨b, 0, none⟩) h.1 _⟩
  · refine (copyCheck_used b w h.cell0).mono ?_
    rintro e w' ⟨rfl, rfl⟩
    exact ⟨rfl, h, Below.refl B _⟩

set_option maxHeartbeats 1000000 in
theorem writeByte (B b : Nat) (bs : List Value) (c : Int) (w : World) (h : Lib.IsBuilder 58 5 B b bs w) (hlen : bs.length + 1 ≤ 140737488355328) (hBw : B ≤ w.heap.size) :
    Calls Try.prog 31 #[.pointer (some ⟨b, 0, none⟩), .int .u8 c] w fun e w' => e = .returned .nilIface ∧ (Lib.BuilderAt 58 5 B b (.pointer (some ⟨b, 0, none⟩)) (bs ++ [.int .u8 c]) w' ∧ Below B w w') := by
  obtain ⟨i0, hi, hz0, hz1, hz2⟩ := info_parts Try.info5
  go_enter Try.func31, Try.ntmps31
  go_wp2_with fail
  refine (copyCheck B b bs _ h).mono ?_
  rintro e w1 ⟨rfl, h1, hb1⟩
  obtain ⟨hB, v, hbk, hown, hne⟩ := h1
  have c0 : w1.cell? ⟨b, 0, none⟩ = some (.pointer (some ⟨b, 0, none⟩)) := by rw [Lib.cell_of_heap hbk]; rfl
  have c1 : w1.cell? ⟨b, 1, none⟩ = some v := by rw [Lib.cell_of_heap hbk]; rfl
  go_wp2_with (at_builtin; refine wpList_append_own _ rfl _ _ 43 rfl B 5 i0 (.int .u8 0) 1 1 Try.underlying43 hi hz0 hz1 hz2 rfl (by decide) _ _ _ rfl (hown.alloc _) ⟨w1.heap.size, 0, none⟩ 1 1 [.int .u8 c] rfl rfl ?c1 ?c2 ?c3 ?c4 ?c5 ?_)
  case c1 =>
    intro j u hj
    match j, hj with
    | 0, hj => simp at hj; subst hj; simp [Addr.add]
  case c2 => intro u hu; simp at hu; subst hu; rfl
  case c3 => unfold maxLen; omega
  case c4 => omega
  case c5 => have := hb1.size; simp; omega
  intro v' w2 hown' hgrow _
  have hlt : b < w1.heap.size := by
    rcases Nat.lt_or_ge b w1.heap.size with h' | h'
    · exact h'
    · simp [Array.getElem?_eq_none h'] at hbk
  have hb2 : w2.heap[b]? = some (.cells #[.pointer (some ⟨b, 0, none⟩), v] 58 (0, 0)) := by
    rw [hgrow.block b (by simp; omega) (fun e => hne e.symm), Lib.alloc_old w1 _ b hlt]
    exact hbk
  have d0 : w2.cell? ⟨b, 0, none⟩ = some (.pointer (some ⟨b, 0, none⟩)) := by rw [Lib.cell_of_heap hb2]; rfl
  have d1 : w2.cell? ⟨b, 1, none⟩ = some v := by rw [Lib.cell_of_heap hb2]; rfl
  have f1 : w2.frozen? ⟨b, 1, none⟩ = false := Lib.frozen_of_heap hb2 1
  obtain ⟨g, cap, rfl⟩ : ∃ g cap, v' = .slice (some ⟨g, 0, none⟩) (bs.length + 1) cap := by
    rcases hown'.2 with ⟨_, h0⟩ | ⟨g, cap, cur, hv, _⟩
    · omega
    · exact ⟨g, cap, hv⟩
  go_wp2
  go_ret
  refine ⟨rfl, ?_, ?_⟩
  · exact Lib.BuilderAt.put (T := 58) (e := 5) hB hb2 (bs' := bs ++ [.int .u8 c]) (by simpa using hown') (by decide)
  · exact ((hb1.alloc (by have := hb1.size; omega) _).grown hgrow (by have := hb1.size; simp; omega) (fun k hk => (hown.lt k hk).1)).setCell (p := ⟨b, 1, none⟩) hB _
end Go.Proofs.Qxb6601748a
