/- The walks of splitLines (33), its shim (11) and of the bound on the length (9). -/
import Derived.Test.Qxb6601719aClone
import Derived.Test.Qxb6601719aPlain
namespace Go.Proofs.Qxb6601719a
open Go.RowKit Go.Proofs.Qxb6601719a.Plain

theorem Try.info22 : (Try.prog.info? 22).map (fun i => (i.zero, i.size, i.bytes)) = some (some (.slice none 0 0), 1, 24) := by kernel_rfl

/-- The lines' values: slices of block b. -/
def Lines (b : Nat) (ms : List Nat) (vals : List Value) : Prop :=
  vals.length = ms.length ∧ ∀ k (h : k < ms.length), ∃ c, vals[k]? = some (.slice (some ⟨b, off ms k, none⟩) ms[k] c)

theorem lines_snoc {b : Nat} {ms : List Nat} {vals : List Value} {m c : Nat} (h : Lines b ms vals) : Lines b (ms ++ [m]) (vals ++ [.slice (some ⟨b, ms.sum, none⟩) m c]) := by
  refine ⟨by simp [h.1], fun k hk => ?_⟩
  rw [List.length_append, List.length_singleton] at hk
  by_cases hk' : k < ms.length
  · obtain ⟨c', hc'⟩ := h.2 k hk'
    refine ⟨c', ?_⟩
    rw [List.getElem?_append_left (by rw [h.1]; exact hk'), hc', off_append _ _ _ (by omega), List.getElem_append_left hk']
  · have e : k = ms.length := by omega
    subst e
    refine ⟨c, ?_⟩
    rw [List.getElem?_append_right (by rw [h.1]; omega), off_append _ _ _ (by omega), off_all, List.getElem_append_right (by omega), h.1]
    simp

/-- A slice's length: the loop's measure. -/
def sliceLen : Value → Nat | .slice _ m _ => m | _ => 0

/-- What the loop keeps: p bytes are cut. -/
def Rel (w : World) (b B : Nat) (zs : List Int) (p : Nat) (ms : List Nat) (vals : List Value) (v : Value) (wr : World) : Prop :=
  ms.sum = p ∧ wr.ownsRow B 22 1 v ms.length vals ∧ Lines b ms vals ∧ Cut zs ms ∧ Below B w wr ∧ ms.length ≤ p ∧ (ms = [] → v = .slice none 0 0)

theorem rel_step {w : World} {b B : Nat} {zs : List Int} {p m c : Nat} {ms : List Nat} {vals : List Value} {v v' : Value} {wr w2 : World} {o : Obj}
    (h : Rel w b B zs p ms vals v wr) (hB : B ≤ w.heap.size) (hp : Piece zs p m) (hown : w2.ownsRow B 22 1 v' (ms.length + 1) (vals ++ [.slice (some ⟨b, p, none⟩) m c]))
    (hg : (wr.alloc o).grownBy w2 v.ownBlock) : Rel w b B zs (p + m) (ms ++ [m]) (vals ++ [.slice (some ⟨b, p, none⟩) m c]) v' w2 := by
  obtain ⟨h1, h2, h3, h4, h5, h6, _⟩ := h
  subst h1
  have hsz := h5.size
  refine ⟨sum_snoc _ _, by simpa using hown, lines_snoc h3, cut_snoc h4 hp, ?_, by have := hp.1; simp; omega, fun e => by simp at e⟩
  exact (h5.alloc (by omega) o).grown hg (by simp; omega) (fun k hk => (h2.lt k hk).1)

set_option maxHeartbeats 1000000 in
theorem split_some (b : Nat) (zs : List Int) (w : World) (hn : zs.length ≤ 1048576) (hb : Hid (∀ z ∈ zs, 0 ≤ z ∧ z ≤ 255)) (hc : Hid (Cells w ⟨b, 0, none⟩ zs)) :
    Calls Try.prog 33 #[.slice (some ⟨b, 0, none⟩) zs.length zs.length] w fun e w' => ∃ v ms vals, e = .returned v ∧ Rel w b w.heap.size zs zs.length ms vals v w' := by
  obtain ⟨i0, hi, hz0, hz1, hz2⟩ := info_parts Try.info22
  go_enter Try.func33, Try.ntmps33
  go_wp2_with fail
  go_loopw [0, 3] (fun t v wr => ∃ (p m : Nat) (ad : Addr) (ms : List Nat) (vals : List Value), p + m ≤ zs.length ∧ zs.length ≤ p + m ∧ t = .slice (some ad) m m ∧ (0 < m → ad = ⟨b, p, none⟩) ∧ Rel w b w.heap.size zs p ms vals v wr)
    (fun t _ _ => sliceLen t)
  case atStart => exact ⟨0, zs.length, _, [], [], by omega, by omega, rfl, fun _ => rfl, rfl, World.ownsRow_nil _ _ _ _, ⟨rfl, fun k h => by simp at h⟩, cut_nil _, Below.refl _ _, Nat.le_refl _, fun _ => rfl⟩
  case round =>
    obtain ⟨p, m, ad, ms, vals, hp1, hp2, rfl, had, hrel⟩ := hrel
    have HR := hide hrel
    clear hrel
    by_cases hm : 0 < m
    · obtain rfl := had hm
      clear had
      have hxs : (zs.drop p).length = m := by rw [List.length_drop]; omega
      have hcx : ∀ i, i < m → wr.cell? ((⟨b, p, none⟩ : Addr).add i) = some (.int .u8 ((zs.drop p).getD i 0)) := fun i hi => by
        have h0 := hc.out (p + i) (by omega)
        have e : (⟨b, p, none⟩ : Addr).add i = (⟨b, 0, none⟩ : Addr).add (p + i) := by
          simp only [Addr.add]
          by_cases h1 : i = 0 <;> by_cases h2 : p = 0 <;> simp [h1, h2]
        rw [e, getD_drop]
        exact (HR.out.2.2.2.2.1.cell (World.block_lt_of_cell? w _ h0)).trans h0
      have hcall := Try.bytes_IndexByte_at ⟨b, p, none⟩ m m (zs.drop p) 10 wr hxs hcx
      have hge := Lib.indexByte_ge (Lib.bytesOf (zs.drop p)) 10
      have hlt := index_lt (Lib.bytesOf (zs.drop p)) 10
      rw [Lib.bytesOf_length, hxs] at hlt
      generalize hx : Lib.indexByte (Lib.bytesOf (zs.drop p)) (10 : Int).toNat.toUInt8 = a at hcall
      have hx' : Lib.indexByte (Lib.bytesOf (zs.drop p)) 10 = a := hx
      rw [hx'] at hge hlt
      clear hx hcx
      have HC := hide hcall
      have Hxs := hide hxs
      clear hcall hxs
      by_cases ha : a = -1
      · subst ha
        have hpc : Hid (Piece zs p m) := by
          have := piece_rest hb.out (by omega) hx'
          rwa [show zs.length - p = m by omega] at this
        clear hx' hge hlt
        go_wp2_with fail
        refine HC.out.mono ?_
        rintro e w1 ⟨rfl, rfl⟩
        have hown := HR.out.2.1
        have hml := HR.out.2.2.2.2.2.1
        have hsz := HR.out.2.2.2.2.1.size
        go_wp2_with (at_builtin; refine wpList_append_own _ rfl _ _ 25 rfl w.heap.size 22 i0 (.slice none 0 0) 1 24 Try.underlying25 hi hz0 hz1 hz2 rfl (by decide) _ _ _ rfl (hown.alloc _) ⟨w1.heap.size, 0, none⟩ 1 1 [.slice (some ⟨b, p, none⟩) m m] rfl rfl ?c1 ?c2 ?c3 ?c4 ?c5 ?_)
        case c1 =>
          intro j u hj
          match j, hj with
          | 0, hj => simp at hj; subst hj; simp [Addr.add]
        case c2 => intro u hu; simp at hu; subst hu; rfl
        case c3 => unfold maxLen; omega
        case c4 => omega
        case c5 => simp; omega
        intro v' w2 hown' hgrow _
        have R := rel_step HR.out (Nat.le_refl _) hpc.out hown' hgrow
        have HR2 := hide R
        clear R hown' hgrow hown
        go_wp2
        go_roundw
        case rel => exact ⟨p + m, 0, _, ms ++ [m], _, by omega, by omega, rfl, fun h => absurd h (by omega), HR2.out⟩
        case measure => simp [sliceLen]; omega
      · obtain ⟨o, rfl⟩ := Int.eq_ofNat_of_zero_le (by omega : 0 ≤ a)
        have hpc : Hid (Piece zs p (o + 1)) := piece_found hb.out hx'
        have hlt' : o < m := by omega
        clear hx' hge hlt ha
        go_wp2_with fail
        refine HC.out.mono ?_
        rintro e w1 ⟨rfl, rfl⟩
        have hown := HR.out.2.1
        have hml := HR.out.2.2.2.2.2.1
        have hsz := HR.out.2.2.2.2.1.size
        go_wp2_with (at_builtin; refine wpList_append_own _ rfl _ _ 25 rfl w.heap.size 22 i0 (.slice none 0 0) 1 24 Try.underlying25 hi hz0 hz1 hz2 rfl (by decide) _ _ _ rfl (hown.alloc _) ⟨w1.heap.size, 0, none⟩ 1 1 [.slice (some ⟨b, p, none⟩) (o + 1) m] rfl rfl ?c1 ?c2 ?c3 ?c4 ?c5 ?_)
        case c1 =>
          intro j u hj
          match j, hj with
          | 0, hj => simp at hj; subst hj; simp [Addr.add]
        case c2 => intro u hu; simp at hu; subst hu; rfl
        case c3 => unfold maxLen; omega
        case c4 => omega
        case c5 => simp; omega
        intro v' w2 hown' hgrow _
        have R := rel_step HR.out (Nat.le_refl _) hpc.out hown' hgrow
        have HR2 := hide R
        clear R hown' hgrow hown
        go_wp2
        go_roundw
        case rel =>
          by_cases he : m = o + 1
          · rw [if_pos he]
            exact ⟨p + (o + 1), m - (o + 1), _, ms ++ [o + 1], _, by omega, by omega, rfl, fun h => absurd h (by omega), HR2.out⟩
          · rw [if_neg he]
            exact ⟨p + (o + 1), m - (o + 1), _, ms ++ [o + 1], _, by omega, by omega, rfl, fun _ => rfl, HR2.out⟩
        case measure => simp [sliceLen]; omega
    · have hm0 : m = 0 := by omega
      subst hm0
      have hpz : p = zs.length := by omega
      subst hpz
      go_wp2_with fail
      go_ret
      exact ⟨_, ms, vals, rfl, HR.out⟩

theorem split_nil (w : World) : Calls Try.prog 33 #[.slice none 0 0] w fun e w' => e = .returned (.slice none 0 0) ∧ w' = w := by
  go_enter Try.func33, Try.ntmps33
  go_wp2_with fail
  refine wp_loop_rounds 1 ?_
  rw [rounds_succ]
  go_wp2_with fail
  go_ret
  exact ⟨rfl, rfl⟩

theorem zsplit_nil (w : World) : Calls Try.prog 11 #[.slice none 0 0] w fun e w' => e = .returned (.slice none 0 0) ∧ w' = w := by
  go_enter Try.func11, Try.ntmps11
  go_wp2_with fail
  refine (split_nil _).mono ?_
  rintro e w' ⟨rfl, rfl⟩
  go_wp2_with fail
  go_ret
  exact ⟨rfl, rfl⟩

theorem zsplit_some (b : Nat) (zs : List Int) (w : World) (hn : zs.length ≤ 1048576) (hb : Hid (∀ z ∈ zs, 0 ≤ z ∧ z ≤ 255)) (hc : Hid (Cells w ⟨b, 0, none⟩ zs)) :
    Calls Try.prog 11 #[.slice (some ⟨b, 0, none⟩) zs.length zs.length] w fun e w' => ∃ v ms vals, e = .returned v ∧ Rel w b w.heap.size zs zs.length ms vals v w' := by
  go_enter Try.func11, Try.ntmps11
  go_wp2_with fail
  refine (split_some b zs w hn hb hc).mono ?_
  rintro e w' ⟨v, ms, vals, rfl, hr⟩
  have HR := hide hr
  clear hr
  go_wp2_with fail
  go_ret
  exact ⟨v, ms, vals, rfl, HR.out⟩

theorem sized_yes (a : Option Addr) (n c : Nat) (w : World) (h : n ≤ 1048576) : Calls Try.prog 9 #[.slice a n c] w fun e w' => e = .returned (.bool true) ∧ w' = w := by
  go_enter Try.func9, Try.ntmps9
  go_wp2
  go_ret
  exact ⟨rfl, rfl⟩

theorem sized_no (a : Option Addr) (n c : Nat) (w : World) (hm : n ≤ maxLen) (h : 1048576 < n) : Calls Try.prog 9 #[.slice a n c] w fun e w' => e = .returned (.bool false) ∧ w' = w := by
  unfold maxLen at hm
  go_enter Try.func9, Try.ntmps9
  go_wp2
  go_ret
  exact ⟨rfl, rfl⟩

end Go.Proofs.Qxb6601719a
