/- The walk of FnValueQuotedRoundTrip (6). -/
import Derived.Test.Qxb6601748aQuote
namespace Go.Proofs.Qxb6601748a
open Go.RowKit Go.Proofs.Qxb6601748a.Plain

theorem sized_yes (p x r : ByteArray) (b : Bool) (w : World) (h : p.size + x.size + r.size ≤ 1048576) :
    Calls Try.prog 20 #[.string p, .string x, .string r, .bool b] w fun e w' => e = .returned (.bool true) ∧ w' = w := by
  go_enter Try.func20, Try.ntmps20
  go_wp2
  go_ret
  exact ⟨rfl, rfl⟩

theorem sized_no (p x r : ByteArray) (b : Bool) (w : World) (hp : p.size ≤ maxLen) (hx : x.size ≤ maxLen) (hr : r.size ≤ maxLen) (h : 1048576 < p.size + x.size + r.size) :
    Calls Try.prog 20 #[.string p, .string x, .string r, .bool b] w fun e w' => e = .returned (.bool false) ∧ w' = w := by
  unfold maxLen at hp hx hr
  by_cases h1 : 1048576 < p.size
  · go_enter Try.func20, Try.ntmps20
    go_wp2
    go_ret
    exact ⟨rfl, rfl⟩
  by_cases h2 : 1048576 < x.size
  · go_enter Try.func20, Try.ntmps20
    go_wp2
    go_ret
    exact ⟨rfl, rfl⟩
  by_cases h3 : 1048576 < p.size + x.size
  · go_enter Try.func20, Try.ntmps20
    go_wp2
    go_ret
    exact ⟨rfl, rfl⟩
  by_cases h4 : 1048576 < r.size
  · go_enter Try.func20, Try.ntmps20
    go_wp2
    go_ret
    exact ⟨rfl, rfl⟩
  · go_enter Try.func20, Try.ntmps20
    go_wp2
    go_ret
    exact ⟨rfl, rfl⟩

theorem bytes_len (s : ByteArray) : s.data.toList.length = s.size := rfl

/-- What q holds behind k rounds. -/
def pre (all : Bool) (p x : ByteArray) (k : Nat) : List UInt8 := p.data.toList ++ 34 :: encL all (x.data.toList.take k)

theorem pre_zero (all : Bool) (p x : ByteArray) : pre all p x 0 = ([] ++ p.data.toList) ++ [34] := by simp [pre, encL]

theorem pre_len (all : Bool) (p x : ByteArray) (k : Nat) : (pre all p x k).length ≤ p.size + 1 + 2 * k := by
  have h1 := encL_le all (x.data.toList.take k)
  rw [List.length_take] at h1
  have h2 : (pre all p x k).length = p.size + 1 + (encL all (x.data.toList.take k)).length := by
    unfold pre
    rw [List.length_append, List.length_cons, bytes_len]; omega
  omega

theorem pre_esc (all : Bool) (p x : ByteArray) (k : Nat) (h : k < x.size) (he : esc all x[k] = true) : pre all p x (k + 1) = (pre all p x k ++ [92]) ++ [x[k]] := by
  unfold pre
  rw [take_snoc x.data.toList k h, encL_snoc]
  have : enc1 all x.data.toList[k] = [92, x[k]] := by unfold enc1; exact if_pos he
  rw [this]
  simp

theorem pre_plain (all : Bool) (p x : ByteArray) (k : Nat) (h : k < x.size) (he : esc all x[k] = false) : pre all p x (k + 1) = pre all p x k ++ [x[k]] := by
  unfold pre
  rw [take_snoc x.data.toList k h, encL_snoc]
  have : enc1 all x.data.toList[k] = [x[k]] := by unfold enc1; exact if_neg (by intro hh; rw [show esc all x.data.toList[k] = esc all x[k] from rfl, he] at hh; cases hh)
  rw [this]
  simp

theorem pre_whole (all : Bool) (p x r : ByteArray) : (pre all p x x.size ++ [34]) ++ r.data.toList = whole all p.data.toList x.data.toList r.data.toList := by
  unfold pre whole
  rw [show x.data.toList.take x.size = x.data.toList from List.take_of_length_le (by rw [bytes_len]; omega)]
  simp

theorem pre_pos (all : Bool) (p x : ByteArray) : (pre all p x x.size ++ [34]).length = pos all p.data.toList x.data.toList x.data.toList.length + 1 := by
  unfold pre
  rw [pos_all, show x.data.toList.take x.size = x.data.toList from List.take_of_length_le (by rw [bytes_len]; omega)]
  simp; omega

theorem esc_cases {all : Bool} {c : UInt8} (h : esc all c = true) : all = true ∨ (all = false ∧ ((c.toNat : Int) == 34) = true) ∨ (all = false ∧ ((c.toNat : Int) == 34) = false ∧ ((c.toNat : Int) == 92) = true) := by
  cases all with
  | true => exact Or.inl rfl
  | false =>
    right
    by_cases h1 : c = 34
    · left; subst h1; exact ⟨rfl, rfl⟩
    · right
      have h2 : c = 92 := by simpa [esc, h1] using h
      subst h2; exact ⟨rfl, rfl, rfl⟩

theorem esc_none {all : Bool} {c : UInt8} (h : esc all c = false) : all = false ∧ ((c.toNat : Int) == 34) = false ∧ ((c.toNat : Int) == 92) = false := by
  obtain ⟨h1, h2, h3⟩ := esc_false h
  refine ⟨h1, ?_, ?_⟩
  · rw [beq_eq_false_iff_ne]; intro e; exact h2 (UInt8.toNat_inj.1 (Int.ofNat.inj e))
  · rw [beq_eq_false_iff_ne]; intro e; exact h3 (UInt8.toNat_inj.1 (Int.ofNat.inj e))

theorem own_shape {B : Nat} {w : World} {v : Value} {L : List UInt8} {wr : World} (h : Own B w v L wr) : ∃ a n c, v = .slice a n c ∧ Hid (n = L.length) := by
  obtain ⟨a, c, hv⟩ := own_len h
  exact ⟨a, L.length, c, hv, rfl⟩

theorem own_string {B : Nat} {w : World} {v : Value} {L : List UInt8} {wr : World} (h : Own B w v L wr) (hL : 0 < L.length) :
    ∃ g n cap, v = .slice (some ⟨g, 0, none⟩) n cap ∧ (convert 43 9 (.slice (some ⟨g, 0, none⟩) n cap)).run Try.prog wr = .ok (.string ⟨L.toArray⟩) wr := by
  rcases h.1.2 with ⟨hv, h0⟩ | ⟨g, cap, cur, hv, _⟩
  · omega
  · refine ⟨g, L.length, cap, hv, ?_⟩
    subst hv
    refine run_convert_bytes_back (P := Try.prog) wr 43 9 5 ⟨g, 0, none⟩ cap L Try.underlying43 Try.underlying5 Try.underlying9 (fun j hj => ?_)
    refine h.1.cells (g := g) rfl j _ ?_
    simp [Lib.byteCells, hj]

set_option maxHeartbeats 2000000 in
theorem walk (p x r : ByteArray) (all : Bool) (wp : p.size ≤ maxLen) (wx : x.size ≤ maxLen) (wr : r.size ≤ maxLen) (w : World) :
    Calls Try.prog 6 #[.string p, .string x, .string r, .bool all] w fun e w' => e = .returned (.bool true) ∧ Below w.heap.size w w' := by
  by_cases hz : 1048576 < p.size + x.size + r.size
  · go_enter Try.func6, Try.ntmps6
    go_wp2_with fail
    refine (sized_no p x r all _ wp wx wr hz).mono ?_
    rintro e w' ⟨rfl, rfl⟩
    go_wp2_with fail
    go_ret
    exact ⟨rfl, Below.refl _ _⟩
  have hz' : p.size + x.size + r.size ≤ 1048576 := by omega
  clear hz wp wx wr
  by_cases h2 : 1048576 < p.size + 2 * x.size + r.size
  · go_enter Try.func6, Try.ntmps6
    go_wp2_with fail
    refine (sized_yes p x r all _ hz').mono ?_
    rintro e w' ⟨rfl, rfl⟩
    go_wp2_with fail
    go_ret
    exact ⟨rfl, Below.refl _ _⟩
  have h2' : p.size + 2 * x.size + r.size ≤ 1048576 := by omega
  clear h2
  go_enter Try.func6, Try.ntmps6
  go_wp2_with fail
  refine (sized_yes p x r all _ hz').mono ?_
  rintro e w' ⟨rfl, rfl⟩
  have hpl : ([] : List UInt8).length + p.size ≤ 8388608 := by simp; omega
  have hpl2 : ([] ++ p.data.toList).length + 1 ≤ 8388608 := by rw [List.nil_append, bytes_len]; omega
  go_wp2_with (first | (at_make; refine make_none rfl _ _ rfl _ _ (p.size + 2 * x.size + 2 + r.size) rfl rfl (by omega) (by omega) ?_; intro q1 w1 hq1) | (at_builtin; refine append_text rfl (.tmp 55) (.tmp 56) rfl w'.heap.size w' _ _ [] p rfl rfl hq1 hpl ?_; intro q2 w2 hq2) | (at_builtin; refine append_byte rfl (.tmp 58) (.tmp 59) rfl w'.heap.size w' _ _ ([] ++ p.data.toList) 34 34 rfl rfl rfl hq2 hpl2 ?_; intro q3 w3 hq3))
  rw [← pre_zero all p x] at hq3
  have Hq3 := hide hq3
  clear hq1 hq2 hq3 hpl hpl2
  go_loopw [9, 10] (fun q i wr => ∃ k : Nat, k ≤ x.size ∧ i = .int .i64 k ∧ Own w'.heap.size w' q (pre all p x k) wr) (fun _ i _ => x.size - (RowKit.intOf i).toNat)
  case atStart => exact ⟨0, Nat.zero_le _, rfl, Hq3.out⟩
  case round =>
    clear Hq3
    obtain ⟨k, hk, rfl, hq⟩ := hrel
    have hl0 := pre_len all p x k
    by_cases hlt : k < x.size
    · have hl1 : (pre all p x k).length + 1 ≤ 8388608 := by omega
      by_cases he : esc all x[k] = true
      · have hl2 : (pre all p x k ++ [92]).length + 1 ≤ 8388608 := by rw [List.length_append, List.length_singleton]; omega
        have hpe := hide (pre_esc all p x k hlt he)
        rcases esc_cases he with rfl | ⟨rfl, t34⟩ | ⟨rfl, t34, t92⟩
        all_goals
          clear he hl0
          go_wp2_with (first | (at_builtin; refine append_byte rfl (.tmp 79) (.tmp 80) rfl w'.heap.size w' _ _ _ 92 92 rfl rfl rfl hq hl1 ?_; intro q4 w4 hq4) | (at_builtin; refine append_byte rfl (.tmp 82) (.tmp 84) rfl w'.heap.size w' _ _ _ x[k] _ rfl rfl rfl hq4 hl2 ?_; intro q5 w5 hq5))
          have Hq5 := hide hq5
          clear hq4 hq5
          go_roundw
          case rel => exact ⟨k + 1, by omega, by go_num, by rw [hpe.out]; exact Hq5.out⟩
          case measure => simp [RowKit.intOf]; omega
      · have he' : esc all x[k] = false := by simpa using he
        have hpe := hide (pre_plain all p x k hlt he')
        obtain ⟨rfl, t34, t92⟩ := esc_none he'
        clear he he' hl0
        go_wp2_with (at_builtin; refine append_byte rfl (.tmp 82) (.tmp 84) rfl w'.heap.size w' _ _ _ x[k] _ rfl rfl rfl hq hl1 ?_; intro q5 w5 hq5)
        have Hq5 := hide hq5
        clear hq5
        go_roundw
        case rel => exact ⟨k + 1, by omega, by go_num, by rw [hpe.out]; exact Hq5.out⟩
        case measure => simp [RowKit.intOf]; omega
    · have hkx : k = x.size := by omega
      subst hkx
      have hl1 : (pre all p x x.size).length + 1 ≤ 8388608 := by omega
      have hl2 : (pre all p x x.size ++ [34]).length + r.size ≤ 8388608 := by rw [List.length_append, List.length_singleton]; omega
      have hl3 : 0 < ((pre all p x x.size ++ [34]) ++ r.data.toList).length := by rw [List.length_append, List.length_append, List.length_singleton]; omega
      go_wp2_with (first | (at_builtin; refine append_byte rfl (.tmp 86) (.tmp 87) rfl w'.heap.size w' _ _ _ 34 34 rfl rfl rfl hq hl1 ?_; intro q4 w4 hq4; obtain ⟨a4, n4, c4, rfl, hn4⟩ := own_shape hq4) | (at_builtin; refine append_text rfl (.tmp 91) (.tmp 92) rfl w'.heap.size w' _ _ _ r rfl rfl hq4 hl2 ?_; intro q5 w5 hq5; obtain ⟨g5, n5, c5, rfl, hconv⟩ := own_string hq5 hl3; generalize hS : ByteArray.mk (List.toArray (pre all p x x.size ++ [34] ++ r.data.toList)) = S at hconv; have HS := hide hS; clear hS))
      have hSl : Hid (S.data.toList = whole all p.data.toList x.data.toList r.data.toList) := by
        rw [← pre_whole, ← HS.out]
        rfl
      have hSs : S.size ≤ 4194304 := by
        rw [← HS.out]
        show ((pre all p x x.size ++ [34]) ++ r.data.toList).length ≤ 4194304
        rw [List.length_append, List.length_append, List.length_singleton, bytes_len]
        omega
      have hcall := zvalue all p.data.toList x.data.toList r.data.toList S w5 hSs (by rw [bytes_len]; omega) hSl
      have hxe : (⟨x.data.toList.toArray⟩ : ByteArray) = x := rfl
      have hpe : ((pos all p.data.toList x.data.toList x.data.toList.length : Int)) + 1 = n4 := by
        have h1 := pre_pos all p x
        have h2 := hn4.out
        omega
      rw [hxe, hpe, bytes_len] at hcall
      refine hcall.mono ?_
      rintro e w6 ⟨rfl, hb6⟩
      have HB6 : Hid (Below w'.heap.size w' w6) := hq5.2.1.trans (hb6.mono hq5.2.2)
      clear hcall hxe hpe hq4 hq5 hq hconv hb6
      go_wp2_with fail
      go_ret
      exact ⟨rfl, HB6.out⟩
end Go.Proofs.Qxb6601748a
