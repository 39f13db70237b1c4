/- The walk of FnSplitLinesExact (3). -/
import Derived.Test.Qxb6601719aSplit
import Derived.BigQuiet
namespace Go.Proofs.Qxb6601719a
open Go.RowKit Go.Proofs.Qxb6601719a.Plain

theorem below_drawn {B : Nat} {a w : World} (h : Below B a w) (n : Nat) : Below B a (w.drewN n) := h.trans ⟨rfl, rfl, rfl, Nat.le_refl _, fun _ _ => rfl⟩

theorem walk_nil (w : World) : Calls Try.prog 3 #[.slice none 0 0] w fun e w' => e = .returned (.bool true) ∧ w' = w := by
  have hnil := fun (wx : World) (a : Option Addr) (l c : Nat) => Lib.run_eql_slice_nil (P := Try.prog) wx 25 22 a l c 0 0 Try.underlying25
  go_enter Try.func3, Try.ntmps3
  go_wp2_with fail
  refine (sized_yes _ _ _ _ (by omega)).mono ?_
  rintro e w' ⟨rfl, rfl⟩
  go_wp2_with fail
  refine (clone_nil _).mono ?_
  rintro e w' ⟨rfl, rfl⟩
  go_wp2_with fail
  refine (zsplit_nil _).mono ?_
  rintro e w' ⟨rfl, rfl⟩
  go_wp2_with fail
  go_ret
  exact ⟨rfl, rfl⟩

set_option maxHeartbeats 1000000 in
theorem walk_some (x : Addr) (c : Nat) (zs : List Int) (w : World) (hm : zs.length ≤ maxLen) (hb : Hid (∀ z ∈ zs, 0 ≤ z ∧ z ≤ 255)) (hc : Hid (Cells w x zs)) :
    Calls Try.prog 3 #[.slice (some x) zs.length c] w fun e w' => e = .returned (.bool true) ∧ Below w.heap.size w w' := by
  have hnil := fun (wx : World) (a : Option Addr) (l c : Nat) => Lib.run_eql_slice_nil (P := Try.prog) wx 25 22 a l c 0 0 Try.underlying25
  by_cases hbig : 1048576 < zs.length
  · go_enter Try.func3, Try.ntmps3
    go_wp2_with fail
    refine (sized_no _ _ _ _ hm hbig).mono ?_
    rintro e w' ⟨rfl, rfl⟩
    go_wp2_with fail
    go_ret
    exact ⟨rfl, Below.refl _ _⟩
  have hn : zs.length ≤ 1048576 := by omega
  clear hbig hm
  by_cases hz : zs.length = 0
  · have hz0 : zs = [] := List.length_eq_zero_iff.1 hz
    subst hz0
    clear hz
    go_enter Try.func3, Try.ntmps3
    go_wp2_with fail
    refine (sized_yes _ _ _ _ (by simp)).mono ?_
    rintro e w' ⟨rfl, rfl⟩
    go_wp2_with fail
    refine (clone_some x c [] _ (by simp) hc).mono ?_
    rintro e w1 ⟨rfl, hown1, hbel1⟩
    have HB1 := hide hbel1
    clear hown1 hbel1
    go_wp2_with fail
    refine (zsplit_some _ [] w1 (by simp) hb (fun i hi => by simp at hi)).mono ?_
    rintro e w2 ⟨v, ms, vals, rfl, hr⟩
    have hms : ms = [] := by
      have := hr.2.2.2.2.2.1
      exact List.length_eq_zero_iff.1 (by simpa using this)
    have hv := hr.2.2.2.2.2.2 hms
    subst hv
    have HB2 : Hid (Below w'.heap.size w' w2) := HB1.out.trans (hr.2.2.2.2.1.mono HB1.out.size)
    clear hr HB1
    go_wp2_with fail
    go_ret
    exact ⟨rfl, HB2.out⟩
  have hpos : 0 < zs.length := by omega
  have hlen0 : ((zs.length : Int) == 0) = false := beq_eq_false_iff_ne.2 (by omega)
  clear hz
  go_enter Try.func3, Try.ntmps3
  go_wp2_with fail
  refine (sized_yes _ _ _ _ hn).mono ?_
  rintro e w' ⟨rfl, rfl⟩
  go_wp2_with fail
  refine (clone_some x c zs _ hn hc).mono ?_
  rintro e w1 ⟨rfl, hown1, hbel1⟩
  have H1 := hide hown1
  have HB1 := hide hbel1
  clear hown1 hbel1
  go_wp2_with fail
  have hc1 : Hid (Cells w1 ⟨w'.heap.size, 0, none⟩ zs) := by
    intro i hi
    have := H1.out.cellAt i (by omega)
    rw [List.getElem?_map, List.getElem?_eq_getElem hi] at this
    rw [show (⟨w'.heap.size, 0, none⟩ : Addr).add i = ⟨w'.heap.size, i, none⟩ by simp only [Addr.add]; by_cases h : i = 0 <;> simp [h]]
    rw [this]
    simp [List.getD, List.getElem?_eq_getElem hi]
  refine (zsplit_some _ zs w1 hn hb hc1).mono ?_
  rintro e w2 ⟨v, ms, vals, rfl, hr⟩
  have HR := hide hr
  clear hr
  -- the slice of lines
  have hms : 0 < ms.length := by
    rcases ms with _ | ⟨m0, t⟩
    · have := HR.out.1; simp at this; omega
    · simp
  obtain ⟨g, cap, rfl⟩ : ∃ g cap, v = .slice (some ⟨g, 0, none⟩) ms.length cap := by
    rcases HR.out.2.1.2 with ⟨_, h⟩ | ⟨g, cap, cur, h, _⟩
    · omega
    · exact ⟨g, cap, h⟩
  have hmsl : ms.length ≤ zs.length := HR.out.2.2.2.2.2.1
  have HT : Hid (∀ i (h : i < zs.length), w2.cell? ⟨w'.heap.size, i, none⟩ = some (.int .u8 zs[i])) := by
    intro i hi
    have h0 := hc1.out i hi
    rw [show (⟨w'.heap.size, 0, none⟩ : Addr).add i = ⟨w'.heap.size, i, none⟩ by simp only [Addr.add]; by_cases h : i = 0 <;> simp [h]] at h0
    have h1 := (HR.out.2.2.2.2.1.cell (World.block_lt_of_cell? w1 _ h0)).trans h0
    rw [h1]
    simp [List.getD, List.getElem?_eq_getElem hi]
  have HL : Hid (∀ k (h : k < ms.length), ∃ c, w2.cell? ⟨g, k, none⟩ = some (.slice (some ⟨w'.heap.size, off ms k, none⟩) ms[k] c)) := by
    intro k hk
    obtain ⟨c', hc'⟩ := HR.out.2.2.1.2 k hk
    exact ⟨c', by rw [HR.out.2.1.cellAt k (by omega)]; exact hc'⟩
  have HCut : Hid (Cut zs ms) := HR.out.2.2.2.1
  have Hsum : Hid (off ms ms.length = zs.length) := by unfold Hid; rw [off_all]; exact HR.out.1
  have HB2 : Hid (Below w'.heap.size w' w2) := by
    have := HR.out.2.2.2.2.1
    exact HB1.out.trans (this.mono HB1.out.size)
  clear HR H1 HB1 hc1 hb hc
  go_wp2_with fail
  go_loopw [4, 5] (fun pos i wr => ∃ k nq : Nat, k ≤ ms.length ∧ i = .int .i64 k ∧ pos = .int .i64 (off ms k) ∧ wr = w2.drewN nq) (fun _ i _ => ms.length - (RowKit.intOf i).toNat)
  case atStart => exact ⟨0, 0, Nat.zero_le _, rfl, by rw [off_zero]; rfl, rfl⟩
  case round =>
    obtain ⟨k, nq, hk, rfl, rfl, rfl⟩ := hrel
    by_cases hlt : k < ms.length
    · obtain ⟨c', hL⟩ := HL.out k hlt
      obtain ⟨hP1, hP2, hP3, hP4⟩ := HCut.out k hlt
      have hP3' := hide hP3
      have Hin : Hid (k + 1 < ms.length → zs.getD (off ms k + ms[k] - 1) 0 = 10) := fun h => cut_inner HCut.out h
      have hsucc := hide (off_succ ms k hlt)
      clear hP3 hP4
      generalize off ms k = o at *
      generalize ms[k] = m at *
      have hm0 : ((m : Int) == 0) = false := beq_eq_false_iff_ne.2 (by omega)
      go_wp2_with fail
      go_loopw [4, 7] (fun pos t wr => ∃ j nq : Nat, j ≤ m ∧ t = .int .i64 j ∧ pos = .int .i64 (o + j) ∧ wr = w2.drewN nq) (fun _ t _ => m - (RowKit.intOf t).toNat)
      case atStart => exact ⟨0, nq, Nat.zero_le _, rfl, by go_num, rfl⟩
      case round =>
        obtain ⟨j, nq2, hj, rfl, rfl, rfl⟩ := hrel
        by_cases hjm : j < m
        · have hoj : o + j < zs.length := by omega
          have hcell := HT.out (o + j) hoj
          have hg : decide ((zs.length : Int) ≤ (o : Int) + j) = false := decide_eq_false (by omega)
          have hz3 := hP3'.out (o + j) (by omega)
          rw [show zs.getD (o + j) 0 = zs[o + j] by simp [List.getD, List.getElem?_eq_getElem hoj]] at hz3
          generalize zs[o + j] = z at *
          by_cases hlast : j + 1 = m
          · have hj1 : ((j : Int) != (m : Int) - 1) = false := by rw [bne_eq_false_iff_eq]; omega
            have hj2 : m ≤ j + 1 := by omega
            clear hlast hz3
            go_wp2_with fail
            go_quiet (fail)
            go_wp2
            all_goals
              go_roundw
              case rel => exact ⟨j + 1, _, by omega, by go_num, by go_num, rfl⟩
              case measure => simp [RowKit.intOf]; omega
          · have hz10 : (z == 10) = false := beq_eq_false_iff_ne.2 (hz3 (by omega))
            have hj2 : j + 1 < m := by omega
            clear hlast hz3
            go_wp2_with fail
            go_quiet (fail)
            go_wp2
            go_roundw
            case rel => exact ⟨j + 1, _, by omega, by go_num, by go_num, rfl⟩
            case measure => simp [RowKit.intOf]; omega
        · have hjm2 : j = m := by omega
          subst hjm2
          clear hjm
          by_cases hk1 : k + 1 < ms.length
          · have hcell : w2.cell? ⟨w'.heap.size, o + (j - 1), none⟩ = some (.int .u8 10) := by
              have hoj : o + (j - 1) < zs.length := by omega
              rw [HT.out (o + (j - 1)) hoj]
              have := Hin.out hk1
              rw [show o + j - 1 = o + (j - 1) by omega, show zs.getD (o + (j - 1)) 0 = zs[o + (j - 1)] by simp [List.getD, List.getElem?_eq_getElem hoj]] at this
              rw [this]
            go_wp2
            go_roundw
            case rel => exact ⟨k + 1, _, by omega, by go_num, by rw [hsucc.out]; go_num, rfl⟩
            case measure => simp [RowKit.intOf]; omega
          · go_wp2
            go_roundw
            case rel => exact ⟨k + 1, _, by omega, by go_num, by rw [hsucc.out]; go_num, rfl⟩
            case measure => simp [RowKit.intOf]; omega
    · have hk2 : k = ms.length := by omega
      subst hk2
      rw [Hsum.out]
      go_wp2
      go_ret
      exact ⟨rfl, below_drawn HB2.out _⟩
end Go.Proofs.Qxb6601719a
