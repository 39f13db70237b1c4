/- The walk of FnSeparatedSkipsCommentLine (4). -/
import Derived.Test.Qxb6601996aSep
namespace Go.Proofs.Qxb6601996a
open Go.RowKit Go.Proofs.Qxb6601996a.Plain

theorem below_drawn {B : Nat} {a w : World} (h : Below B a w) (n : Nat) : Below B a (w.drewN n) := h.trans ⟨rfl, rfl, rfl, Nat.le_refl _, fun _ _ => rfl⟩

/-- The whole text u. -/
def whole (cz tz : List Int) : List Int := 35 :: (cz ++ 10 :: tz)

theorem whole_len (cz tz : List Int) : (whole cz tz).length = cz.length + tz.length + 2 := by simp [whole]; omega
theorem whole_mid (cz tz : List Int) (k : Nat) (h : k < cz.length) : (whole cz tz)[k + 1]'(by rw [whole_len]; omega) = cz[k] := by
  simp [whole, List.getElem_append_left h]
theorem whole_nl (cz tz : List Int) : (whole cz tz)[cz.length + 1]'(by rw [whole_len]; omega) = 10 := by
  simp [whole]
theorem whole_end (cz tz : List Int) (k : Nat) (h : k < tz.length) : (whole cz tz)[cz.length + 2 + k]'(by rw [whole_len]; omega) = tz[k] := by
  have e : cz.length + 2 + k = (cz.length + (k + 1)) + 1 := by omega
  simp only [e, whole, List.getElem_cons_succ]
  rw [List.getElem_append_right (by omega)]
  simp

/-- The slice u, its first k bytes laid. -/
def OwnU (g : Nat) (cz tz : List Int) (k : Nat) (wr : World) : Prop :=
  wr.ownsRow g 5 1 (.slice (some ⟨g, 0, none⟩) (cz.length + tz.length + 2) (cz.length + tz.length + 2)) (cz.length + tz.length + 2) (part (whole cz tz) k)

theorem own_made {g : Nat} {cz tz : List Int} {w3 : World} (h : w3.ownsRow g 5 1 (.slice (some ⟨g, 0, none⟩) (cz.length + tz.length + 2) (cz.length + tz.length + 2)) (cz.length + tz.length + 2) (madeCells (Value.int .u8 0).cells ((cz.length + tz.length + 2) * 1)).toList) : OwnU g cz tz 0 w3 := by
  have e : (madeCells (Value.int .u8 0).cells ((cz.length + tz.length + 2) * 1)).toList = part (whole cz tz) 0 := by
    rw [part_zero, Nat.mul_one, whole_len]; exact toList_madeCells_one _ _
  rw [e] at h
  exact h

section
variable {g : Nat} {cz tz : List Int} {k : Nat} {wr : World}

theorem OwnU.cell (h : OwnU g cz tz k wr) (j : Nat) (hj : j < cz.length + tz.length + 2) : ∃ v, wr.cell? ⟨g, j, none⟩ = some v := by
  rw [World.ownsRow.cellAt h j (by omega)]
  exact ⟨_, List.getElem?_eq_getElem (by rw [h.1]; omega)⟩

theorem OwnU.free (h : OwnU g cz tz k wr) (j : Nat) : wr.frozen? ⟨g, j, none⟩ = false := World.ownsRow.frozenAt h j

theorem OwnU.store (h : OwnU g cz tz k wr) (hk : k < (whole cz tz).length) : OwnU g cz tz (k + 1) (wr.setCell ⟨g, k, none⟩ (.int .u8 (whole cz tz)[k])) := by
  have := (World.ownsRow.stored h k (.int .u8 (whole cz tz)[k])).1
  rw [part_set _ _ hk] at this
  exact this

theorem OwnU.hash (h : OwnU g cz tz 0 wr) : OwnU g cz tz 1 (wr.setCell ⟨g, 0, none⟩ (.int .u8 35)) := h.store (by rw [whole_len]; omega)

theorem OwnU.mid (h : OwnU g cz tz (k + 1) wr) (hk : k < cz.length) : OwnU g cz tz (k + 1 + 1) (wr.setCell ⟨g, k + 1, none⟩ (.int .u8 cz[k])) := by
  have := h.store (by rw [whole_len]; omega)
  rwa [whole_mid cz tz k hk] at this

theorem OwnU.nl (h : OwnU g cz tz (cz.length + 1) wr) : OwnU g cz tz (cz.length + 2) (wr.setCell ⟨g, cz.length + 1, none⟩ (.int .u8 10)) := by
  have := h.store (by rw [whole_len]; omega)
  rwa [whole_nl cz tz] at this

theorem OwnU.tail (h : OwnU g cz tz (cz.length + 2 + k) wr) (hk : k < tz.length) : OwnU g cz tz (cz.length + 2 + k + 1) (wr.setCell ⟨g, cz.length + 2 + k, none⟩ (.int .u8 tz[k])) := by
  have := h.store (by rw [whole_len]; omega)
  rwa [whole_end cz tz k hk] at this

theorem OwnU.cells (h : OwnU g cz tz (cz.length + 2 + tz.length) wr) : Cells wr ⟨g, 0, none⟩ (whole cz tz) := by
  intro i hi
  have e : part (whole cz tz) (cz.length + 2 + tz.length) = (whole cz tz).map (Value.int .u8) := by
    rw [show cz.length + 2 + tz.length = (whole cz tz).length by rw [whole_len]; omega]
    exact part_all _
  unfold OwnU at h
  rw [e] at h
  exact h.cells (g := g) rfl i (.int .u8 ((whole cz tz).getD i 0)) (by simp [List.getD, List.getElem?_eq_getElem hi])
end

theorem whole_bytes {cz tz : List Int} (h0 : ∀ z ∈ cz, 0 ≤ z ∧ z ≤ 255) (h1 : ∀ z ∈ tz, 0 ≤ z ∧ z ≤ 255) : ∀ z ∈ whole cz tz, 0 ≤ z ∧ z ≤ 255 := by
  intro z hz
  simp only [whole, List.mem_cons, List.mem_append] at hz
  rcases hz with rfl | hz | rfl | hz
  · decide
  · exact h0 z hz
  · decide
  · exact h1 z hz

theorem Rows2.at_ {w wr : World} {a : Option Addr} {c : Nat} {zs : List Int} (h : Rows2 w a c zs) (hb : Below w.heap.size w wr) (k : Nat) (hk : k < zs.length) : ∃ x, a = some x ∧ wr.cell? (x.add k) = some (.int .u8 zs[k]) := by
  rcases h.keep hb (Nat.le_refl _) with ⟨_, _, h⟩ | ⟨x, hx, hc⟩
  · rw [h] at hk; simp at hk
  · exact ⟨x, hx, by rw [hc k hk]; simp [List.getD, List.getElem?_eq_getElem hk]⟩

set_option maxHeartbeats 2000000 in
theorem walk_any (a0 a1 : Option Addr) (c0 c1 : Nat) (cz tz : List Int) (w : World) (m0 : cz.length ≤ maxLen) (m1 : tz.length ≤ maxLen)
    (hb0 : Hid (∀ z ∈ cz, 0 ≤ z ∧ z ≤ 255)) (hb1 : Hid (∀ z ∈ tz, 0 ≤ z ∧ z ≤ 255)) (h0 : Hid (Rows2 w a0 c0 cz)) (h1 : Hid (Rows2 w a1 c1 tz)) :
    Calls Try.prog 4 #[.slice a0 cz.length c0, .slice a1 tz.length c1] w fun e w' => e = .returned (.bool true) ∧ Below w.heap.size w w' := by
  by_cases hz : 1048576 < cz.length + tz.length
  · go_enter Try.func4, Try.ntmps4
    go_wp2_with fail
    refine (sized_no _ _ _ _ _ _ _ m0 m1 hz).mono ?_
    rintro e w' ⟨rfl, rfl⟩
    go_wp2_with fail
    go_ret
    exact ⟨rfl, Below.refl _ _⟩
  have hz' : cz.length + tz.length ≤ 1048576 := by omega
  clear hz m0 m1
  by_cases hs0 : 524288 < cz.length
  · go_enter Try.func4, Try.ntmps4
    go_wp2_with fail
    refine (sized_yes _ _ _ _ _ _ _ hz').mono ?_
    rintro e w' ⟨rfl, rfl⟩
    go_wp2_with fail
    go_ret
    exact ⟨rfl, Below.refl _ _⟩
  by_cases hs1 : 524288 < tz.length
  · go_enter Try.func4, Try.ntmps4
    go_wp2_with fail
    refine (sized_yes _ _ _ _ _ _ _ hz').mono ?_
    rintro e w' ⟨rfl, rfl⟩
    go_wp2_with fail
    go_ret
    exact ⟨rfl, Below.refl _ _⟩
  have l0 : cz.length ≤ 524288 := by omega
  have l1 : tz.length ≤ 524288 := by omega
  clear hs0 hs1
  go_enter Try.func4, Try.ntmps4
  go_wp2_with fail
  refine (sized_yes _ _ _ _ _ _ _ hz').mono ?_
  rintro e w' ⟨rfl, rfl⟩
  go_wp2_with fail
  go_loop [5] (fun i => ∃ k : Nat, k ≤ cz.length ∧ i = .int .i64 k ∧ ∀ j (h : j < cz.length), j < k → cz[j] ≠ 10) (fun i => cz.length - (RowKit.intOf i).toNat)
  case atStart => exact ⟨0, Nat.zero_le _, rfl, fun j _ hj => absurd hj (Nat.not_lt_zero _)⟩
  case round =>
    obtain ⟨k, hk, rfl, hno⟩ := hrel
    have Hno := hide hno
    clear hno
    by_cases hlt : k < cz.length
    · obtain ⟨x, rfl, hx⟩ : ∃ x, a0 = some x ∧ w'.cell? (x.add k) = some (.int .u8 cz[k]) := by
        rcases h0.out with ⟨_, _, h⟩ | ⟨x, hx, hc⟩
        · rw [h] at hlt; simp at hlt
        · exact ⟨x, hx, by rw [hc k hlt]; simp [List.getD, List.getElem?_eq_getElem hlt]⟩
      by_cases h10 : cz[k] = 10
      · have t10 : (cz[k] == 10) = true := beq_iff_eq.2 h10
        clear h10
        go_wp2_with fail
        go_ret
        exact ⟨rfl, Below.refl _ _⟩
      · have t10 : (cz[k] == 10) = false := beq_eq_false_iff_ne.2 h10
        have H10 : Hid (cz[k] ≠ 10) := h10
        clear h10
        go_wp2_with fail
        go_round
        case rel =>
          refine ⟨k + 1, by omega, by go_num, fun j h hj => ?_⟩
          rcases Nat.lt_or_eq_of_le (Nat.le_of_lt_succ hj) with h' | h'
          · exact Hno.out j h h'
          · subst h'; exact H10.out
        case measure => simp [RowKit.intOf]; omega
    · have hno : Hid (∀ z ∈ cz, z ≠ 10) := by
        intro z hz
        obtain ⟨j, hj, rfl⟩ := List.mem_iff_getElem.1 hz
        exact Hno.out j hj (by omega)
      clear Hno
      go_wp2_with fail
      refine (clone_any a0 c0 cz _ (by omega) h0.out).mono ?_
      rintro e w1 ⟨a2, c2, rfl, hcl0, hbel0⟩
      have HC0 := hide hcl0
      have HB0 := hide hbel0
      clear hcl0 hbel0
      go_wp2_with fail
      refine (clone_any a1 c1 tz _ (by omega) (h1.out.keep HB0.out (Nat.le_refl _))).mono ?_
      rintro e w2 ⟨a3, c3, rfl, hcl1, hbel1⟩
      have HC1 := hide hcl1
      have HB1 := hide hbel1
      clear hcl1 hbel1
      obtain ⟨i0, hi, hz0, hz1, hz2⟩ := info_parts Try.info5
      have hbyt : i0.bytes * (cz.length + tz.length + 2) ≤ 281474976710656 := by rw [hz2]; omega
      have hml : cz.length + tz.length + 2 ≤ maxLen := by unfold maxLen; omega
      have HR0 : Hid (Rows2 w2 a2 c2 cz) := (HC0.out.keep HB1.out (Nat.le_refl _)).rows
      have HR1 : Hid (Rows2 w2 a3 c3 tz) := HC1.out.rows
      have HB2 : Hid (Below w'.heap.size w' w2) := HB0.out.trans (HB1.out.mono HB0.out.size)
      clear HC0 HB0 HB1
      go_wp2_with (at_make; refine wpList_make_full _ rfl _ _ 22 rfl w2.heap.size 5 i0 (.int .u8 0) 1 Try.underlying22 hi hz0 hz1 .i64 .i64 _ _ (cz.length + tz.length + 2) rfl rfl (by omega) (by omega) hbyt hml (Nat.le_refl _) ?_; intro w3 hown hgrow; have hou := (show OwnU w2.heap.size cz tz 0 w3 from own_made hown); obtain ⟨v0, hv0⟩ := hou.cell 0 (by omega); have hf0 := hou.free 0)
      have hou1 := hide hou.hash
      have hbel3 : Hid (Below w2.heap.size w2 w3) := (Below.refl _ _).grown hgrow (Nat.le_refl _) (by simp)
      clear hown hgrow hou hv0 hf0 hi hz0 hz1 hz2 hbyt hml
      go_loopw [7] (fun i wr => ∃ j : Nat, j ≤ cz.length ∧ i = .int .i64 j ∧ OwnU w2.heap.size cz tz (j + 1) wr ∧ Below w2.heap.size w2 wr) (fun i _ => cz.length - (RowKit.intOf i).toNat)
      case atStart => exact ⟨0, Nat.zero_le _, rfl, hou1.out, hbel3.out.setCell (Nat.le_refl _) _⟩
      case round =>
        clear hou1 hbel3
        obtain ⟨j, hj, rfl, hou, hbel⟩ := hrel
        by_cases hjl : j < cz.length
        · obtain ⟨x, rfl, hx⟩ := HR0.out.at_ hbel j hjl
          obtain ⟨v1, hv1⟩ := hou.cell (j + 1) (by omega)
          have hf1 := hou.free (j + 1)
          have HO := hide (hou.mid hjl)
          have HBel := hide hbel
          clear hou hbel
          go_wp2_with fail
          go_roundw
          case rel => exact ⟨j + 1, by omega, by go_num, HO.out, HBel.out.setCell (Nat.le_refl _) _⟩
          case measure => simp [RowKit.intOf]; omega
        · have hje : j = cz.length := by omega
          subst hje
          obtain ⟨v1, hv1⟩ := hou.cell (cz.length + 1) (by omega)
          have hf1 := hou.free (cz.length + 1)
          have HO := hide hou.nl
          have HBel := hide hbel
          clear hou hbel
          go_wp2_with fail
          have HBel2 : Hid (Below w2.heap.size w2 (wr.setCell ⟨w2.heap.size, cz.length + 1, none⟩ (.int .u8 10))) := HBel.out.setCell (Nat.le_refl _) _
          clear hv1 hf1 HBel
          go_loopw [8] (fun i wx => ∃ j : Nat, j ≤ tz.length ∧ i = .int .i64 j ∧ OwnU w2.heap.size cz tz (cz.length + 2 + j) wx ∧ Below w2.heap.size w2 wx) (fun i _ => tz.length - (RowKit.intOf i).toNat)
          case atStart => exact ⟨0, Nat.zero_le _, rfl, HO.out, HBel2.out⟩
          case round =>
            clear HO HBel2
            obtain ⟨j, hj3, rfl, hou, hbel⟩ := hrel
            by_cases hjl : j < tz.length
            · obtain ⟨x, rfl, hx⟩ := HR1.out.at_ hbel j hjl
              obtain ⟨v1, hv1⟩ := hou.cell (cz.length + 2 + j) (by omega)
              have hf1 := hou.free (cz.length + 2 + j)
              have HO := hide (hou.tail hjl)
              have HBel := hide hbel
              clear hou hbel
              go_wp2_with fail
              go_roundw
              case rel => exact ⟨j + 1, by omega, by go_num, HO.out, HBel.out.setCell (Nat.le_refl _) _⟩
              case measure => simp [RowKit.intOf]; omega
            · have hje : j = tz.length := by omega
              subst hje
              have HCU := hide hou.cells
              have HBel := hide hbel
              clear hou hbel
              go_wp2_with fail
              have hcall := zsep_some w2.heap.size (whole cz tz) wr (whole_bytes hb0.out hb1.out) HCU
              rw [whole_len, show sepF false (whole cz tz) = sepF false tz from sep_line cz tz hno.out] at hcall
              refine hcall.mono ?_
              rintro e wu ⟨vu, rfl, hru, rfl⟩
              have HRU := hide hru
              clear hcall hru
              have HC2 := hide (HC1.out.keep HBel.out (Nat.le_refl _))
              have HB3 : Hid (Below w'.heap.size w' wu) := HB2.out.trans (HBel.out.mono HB2.out.size)
              clear HC1 HBel HB2 HR0 HR1 HCU h0 h1 hno
              have hnil := fun (wx : World) (a : Option Addr) (l c : Nat) => Lib.run_eql_slice_nil (P := Try.prog) wx 22 5 a l c 0 0 Try.underlying22
              have hneq := fun (wx : World) (a : Option Addr) (l c : Nat) => run_neq_slice_nil_any (P := Try.prog) wx 22 5 a l c 0 0 Try.underlying22
              rcases HC2.out with ⟨rfl, rfl, rfl⟩ | ⟨g1, rfl, rfl, _, _, hc1⟩
              · obtain ⟨ad, cu, rfl, _⟩ : ∃ ad c, vu = .slice (some ad) ([] : List Int).length c ∧ Cells wu ad [] := HRU.out
                clear HRU HC2
                go_wp2_with fail
                refine (zsep_nil _).mono ?_
                rintro e w9 ⟨rfl, rfl⟩
                go_wp2_with fail
                go_ret
                exact ⟨rfl, HB3.out⟩
              · have hcall2 := zsep_some g1 tz wu hb1 hc1
                have hsl := sep_len tz false
                generalize sepF false tz = res at *
                have Hcall2 := hide hcall2
                have Hsl := hide hsl
                clear hcall2 hsl HC2 hc1
                cases res with
                | none =>
                  have hvu : vu = .slice none 0 0 := HRU.out
                  subst hvu
                  clear HRU Hsl
                  go_wp2_with fail
                  refine Hcall2.out.mono ?_
                  rintro e w9 ⟨vs, rfl, hvs, rfl⟩
                  have hvs' : vs = .slice none 0 0 := hvs
                  subst hvs'
                  clear hvs Hcall2
                  go_wp2_with fail
                  go_ret
                  exact ⟨rfl, HB3.out⟩
                | some rr =>
                  obtain ⟨ad, cu, rfl, hcu⟩ : ∃ ad c, vu = .slice (some ad) rr.length c ∧ Cells wu ad rr := HRU.out
                  have HCU := hide hcu
                  have hrl := Hsl.out rr rfl
                  clear HRU hcu Hsl
                  go_wp2_with fail
                  refine Hcall2.out.mono ?_
                  rintro e w9 ⟨vs, rfl, hvs, rfl⟩
                  obtain ⟨ad2, cs, rfl, hcs⟩ : ∃ ad c, vs = .slice (some ad) rr.length c ∧ Cells w9 ad rr := hvs
                  have HCS := hide hcs
                  clear hcs Hcall2
                  go_wp2_with fail
                  refine (same_yes ad ad2 _ _ rr _ (by omega) HCU HCS).mono ?_
                  rintro e w10 ⟨rfl, nq, rfl⟩
                  go_wp2_with fail
                  go_ret
                  exact ⟨rfl, below_drawn HB3.out _⟩
end Go.Proofs.Qxb6601996a
