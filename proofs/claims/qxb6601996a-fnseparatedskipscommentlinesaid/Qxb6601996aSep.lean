/- The walks of separated (13), its shim (8), sameBytes (10) and of the bound on the lengths (9). -/
import Derived.Test.Qxb6601996aClone
import Derived.Test.Qxb6601996aPlain
import Derived.BigQuiet
namespace Go.Proofs.Qxb6601996a
open Go.RowKit Go.Proofs.Qxb6601996a.Plain

/-- A slice's length: the loop's measure. -/
def sliceLen : Value → Nat | .slice _ m _ => m | _ => 0

theorem blank32 {z : Int} (h : (z == 32) = true) : isBlank z = true := by unfold isBlank; rw [h]; rfl
theorem blank9 {z : Int} (h : (z == 9) = true) : isBlank z = true := by unfold isBlank; rw [h, Bool.or_true]; rfl
theorem blank13 {z : Int} (h : (z == 13) = true) : isBlank z = true := by unfold isBlank; rw [h, Bool.or_true]; rfl
theorem blank10 {z : Int} (h : (z == 10) = true) : isBlank z = true := by unfold isBlank; rw [h, Bool.or_true]
theorem blank_no {z : Int} (h1 : (z == 32) = false) (h2 : (z == 9) = false) (h3 : (z == 13) = false) (h4 : (z == 10) = false) : isBlank z = false := by unfold isBlank; rw [h1, h2, h3, h4]; rfl

/-- What 'separated' hands back. -/
def Res (w : World) (v : Value) : Option (List Int) → Prop
  | none => v = .slice none 0 0
  | some r => ∃ ad c, v = .slice (some ad) r.length c ∧ Cells w ad r

theorem add_add (b p i : Nat) : (⟨b, p, none⟩ : Addr).add i = (⟨b, 0, none⟩ : Addr).add (p + i) := by
  simp only [Addr.add]
  by_cases h1 : i = 0 <;> by_cases h2 : p = 0 <;> simp [h1, h2]

theorem getD_drop (zs : List Int) (p j : Nat) : (zs.drop p).getD j 0 = zs.getD (p + j) 0 := by
  simp [List.getD, List.getElem?_drop]

theorem cells_drop {w : World} {b : Nat} {zs : List Int} (h : Cells w ⟨b, 0, none⟩ zs) (p : Nat) : Cells w ⟨b, p, none⟩ (zs.drop p) := by
  intro i hi
  rw [List.length_drop] at hi
  rw [add_add, getD_drop]
  exact h (p + i) (by omega)

set_option maxHeartbeats 1000000 in
theorem sep_some (b : Nat) (zs : List Int) (w : World) (hb : Hid (∀ z ∈ zs, 0 ≤ z ∧ z ≤ 255)) (hc : Hid (Cells w ⟨b, 0, none⟩ zs)) :
    Calls Try.prog 13 #[.slice (some ⟨b, 0, none⟩) zs.length zs.length] w fun e w' => ∃ v, e = .returned v ∧ Res w v (sepF false zs) ∧ w' = w := by
  go_enter Try.func13, Try.ntmps13
  go_wp2_with fail
  go_loop [0] (fun t => ∃ (p m : Nat) (ad : Addr), p + m ≤ zs.length ∧ zs.length ≤ p + m ∧ t = .slice (some ad) m m ∧ (0 < m → ad = ⟨b, p, none⟩) ∧ sepF false zs = sepF false (zs.drop p)) (fun t => sliceLen t)
  case atStart => exact ⟨0, zs.length, _, by omega, by omega, rfl, fun _ => rfl, by rw [List.drop_zero]⟩
  case round =>
    obtain ⟨p, m, ad, hp1, hp2, rfl, had, hsep⟩ := hrel
    have HS := hide hsep
    clear hsep
    by_cases hm : 0 < m
    · obtain rfl := had hm
      clear had
      have hpz : p < zs.length := by omega
      have h0 : w.cell? ⟨b, p, none⟩ = some (.int .u8 zs[p]) := by
        have := cells_drop hc.out p 0 (by rw [List.length_drop]; omega)
        rw [getD_drop] at this
        simpa [Addr.add, List.getD, List.getElem?_eq_getElem hpz] using this
      have H1 : Hid (isBlank zs[p] = true → sepF false (zs.drop p) = sepF false (zs.drop (p + 1))) := fun h => sep_blank zs p hpz h
      have H2 : Hid (zs[p] = 35 → Lib.indexByte (Lib.bytesOf (zs.drop p)) 10 = -1 → sepF false (zs.drop p) = none) := fun h h' => sep_endless hb.out hpz h h'
      have H3 : Hid (∀ o : Nat, zs[p] = 35 → Lib.indexByte (Lib.bytesOf (zs.drop p)) 10 = o → 0 < o ∧ p + o < zs.length ∧ sepF false (zs.drop p) = sepF false (zs.drop (p + o))) := fun o h h' => sep_ends hb.out hpz h h'
      have H4 : Hid (isBlank zs[p] = false → zs[p] ≠ 35 → sepF false (zs.drop p) = some (zs.drop p)) := fun h h' => sep_other zs p hpz h h'
      generalize zs[p] = z at *
      go_wp2_with fail
      iterate 4
        · have hbl : isBlank z = true := by first | exact blank32 (by assumption) | exact blank9 (by assumption) | exact blank13 (by assumption) | exact blank10 (by assumption)
          go_round
          case rel =>
            by_cases h1 : m = 1
            · rw [if_pos h1]
              exact ⟨p + 1, m - 1, _, by omega, by omega, rfl, fun h => absurd h (by omega), HS.out.trans (H1.out hbl)⟩
            · rw [if_neg h1]
              exact ⟨p + 1, m - 1, _, by omega, by omega, rfl, fun _ => rfl, HS.out.trans (H1.out hbl)⟩
          case measure => simp [sliceLen]; omega
      · have h35 : z = 35 := by
          have : (z == 35) = true := by assumption
          exact beq_iff_eq.1 this
        have H35 := hide h35
        clear h35
        have hxs : (zs.drop p).length = m := by rw [List.length_drop]; omega
        have hcall := Try.bytes_IndexByte_at ⟨b, p, none⟩ m m (zs.drop p) 10 w hxs (fun i hi => cells_drop hc.out p i (by rw [hxs]; exact hi))
        have hge := Lib.indexByte_ge (Lib.bytesOf (zs.drop p)) 10
        have hlt := index_lt (Lib.bytesOf (zs.drop p)) 10
        rw [Lib.bytesOf_length, hxs] at hlt
        generalize hx : Lib.indexByte (Lib.bytesOf (zs.drop p)) (10 : Int).toNat.toUInt8 = a at hcall
        have hx' : Lib.indexByte (Lib.bytesOf (zs.drop p)) 10 = a := hx
        rw [hx'] at hge hlt
        refine hcall.mono ?_
        rintro e w1 ⟨rfl, rfl⟩
        clear hcall hx
        by_cases ha : a = -1
        · subst ha
          have hres := hide (HS.out.trans (H2.out H35.out hx'))
          clear hx' hge hlt
          go_wp2_with fail
          go_ret
          exact ⟨_, rfl, by rw [hres.out]; rfl, rfl⟩
        · obtain ⟨o, rfl⟩ := Int.eq_ofNat_of_zero_le (by omega : 0 ≤ a)
          obtain ⟨ho1, ho2, ho3⟩ := H3.out o H35.out hx'
          have HO := hide (HS.out.trans ho3)
          have hlt' : o < m := by omega
          clear hx' hge hlt ha ho3
          go_wp2_with fail
          go_round
          case rel => exact ⟨p + o, m - o, _, by omega, by omega, rfl, fun _ => rfl, HO.out⟩
          case measure => simp [sliceLen]; omega
      · have hz : isBlank z = false := blank_no (by assumption) (by assumption) (by assumption) (by assumption)
        have h35 : z ≠ 35 := by
          have : (z == 35) = false := by assumption
          exact beq_eq_false_iff_ne.1 this
        have hres := HS.out.trans (H4.out hz h35)
        have hxs : (zs.drop p).length = m := by rw [List.length_drop]; omega
        go_ret
        refine ⟨_, rfl, ?_, rfl⟩
        rw [hres]
        exact ⟨⟨b, p, none⟩, m, by rw [hxs]; rfl, cells_drop hc.out p⟩
    · have hm0 : m = 0 := by omega
      subst hm0
      have hd : zs.drop p = [] := List.drop_eq_nil_iff.2 (by omega)
      rw [hd] at HS
      have hres := hide (HS.out.trans (show sepF false [] = some [] from rfl))
      clear HS hd
      go_wp2_with fail
      go_ret
      refine ⟨_, rfl, ?_, rfl⟩
      rw [hres.out]
      exact ⟨ad, 0, rfl, fun i hi => by simp at hi⟩

theorem sep_nil (w : World) : Calls Try.prog 13 #[.slice none 0 0] w fun e w' => e = .returned (.slice none 0 0) ∧ w' = w := by
  go_enter Try.func13, Try.ntmps13
  go_wp2_with fail
  refine wp_loop_rounds 1 ?_
  rw [rounds_succ]
  go_wp2_with fail
  go_ret
  exact ⟨rfl, rfl⟩

theorem zsep_nil (w : World) : Calls Try.prog 8 #[.slice none 0 0] w fun e w' => e = .returned (.slice none 0 0) ∧ w' = w := by
  go_enter Try.func8, Try.ntmps8
  go_wp2_with fail
  refine (sep_nil _).mono ?_
  rintro e w' ⟨rfl, rfl⟩
  go_wp2_with fail
  go_ret
  exact ⟨rfl, rfl⟩

theorem zsep_some (b : Nat) (zs : List Int) (w : World) (hb : Hid (∀ z ∈ zs, 0 ≤ z ∧ z ≤ 255)) (hc : Hid (Cells w ⟨b, 0, none⟩ zs)) :
    Calls Try.prog 8 #[.slice (some ⟨b, 0, none⟩) zs.length zs.length] w fun e w' => ∃ v, e = .returned v ∧ Res w v (sepF false zs) ∧ w' = w := by
  go_enter Try.func8, Try.ntmps8
  go_wp2_with fail
  refine (sep_some b zs w hb hc).mono ?_
  rintro e w' ⟨v, rfl, hr, rfl⟩
  have HR := hide hr
  clear hr
  go_wp2_with fail
  go_ret
  exact ⟨v, rfl, HR.out, rfl⟩

theorem sized_yes (a0 a1 : Option Addr) (n0 c0 n1 c1 : Nat) (w : World) (h : n0 + n1 ≤ 1048576) :
    Calls Try.prog 9 #[.slice a0 n0 c0, .slice a1 n1 c1] w fun e w' => e = .returned (.bool true) ∧ w' = w := by
  go_enter Try.func9, Try.ntmps9
  go_wp2
  go_ret
  exact ⟨rfl, rfl⟩

theorem sized_no (a0 a1 : Option Addr) (n0 c0 n1 c1 : Nat) (w : World) (h0 : n0 ≤ maxLen) (h1 : n1 ≤ maxLen) (h : 1048576 < n0 + n1) :
    Calls Try.prog 9 #[.slice a0 n0 c0, .slice a1 n1 c1] w fun e w' => e = .returned (.bool false) ∧ w' = w := by
  unfold maxLen at h0 h1
  by_cases h2 : 1048576 < n0
  · go_enter Try.func9, Try.ntmps9
    go_wp2
    go_ret
    exact ⟨rfl, rfl⟩
  by_cases h3 : 1048576 < n1
  · go_enter Try.func9, Try.ntmps9
    go_wp2
    go_ret
    exact ⟨rfl, rfl⟩
  · go_enter Try.func9, Try.ntmps9
    go_wp2
    go_ret
    exact ⟨rfl, rfl⟩

set_option maxHeartbeats 400000 in
/-- sameBytes at two slices that hold the same bytes. -/
theorem same_yes (x y : Addr) (c d : Nat) (zs : List Int) (w : World) (hn : zs.length ≤ 4194304) (hx : Hid (Cells w x zs)) (hy : Hid (Cells w y zs)) :
    Calls Try.prog 10 #[.slice (some x) zs.length c, .slice (some y) zs.length d] w fun e w' => e = .returned (.bool true) ∧ ∃ n, w' = w.drewN n := by
  go_enter Try.func10, Try.ntmps10
  go_wp2_with fail
  go_loopw [5] (fun i wr => ∃ k nq : Nat, k ≤ zs.length ∧ i = .int .i64 k ∧ wr = w.drewN nq) (fun i _ => zs.length - (RowKit.intOf i).toNat)
  case atStart => exact ⟨0, 0, Nat.zero_le _, rfl, rfl⟩
  case round =>
    obtain ⟨k, nq, hk, rfl, rfl⟩ := hrel
    by_cases hlt : k < zs.length
    · have h1 := hx.out k hlt
      have h2 := hy.out k hlt
      generalize zs.getD k 0 = z at *
      have hz : (z != z) = false := by simp
      have hltI : (k : Int) < zs.length := by omega
      go_wp2_with fail
      go_quiet (fail)
      go_wp2
      go_roundw
      case rel => exact ⟨k + 1, _, by omega, by go_num, rfl⟩
      case measure => simp [RowKit.intOf]; omega
    · go_wp2_with fail
      go_ret
      exact ⟨rfl, _, rfl⟩

end Go.Proofs.Qxb6601996a
