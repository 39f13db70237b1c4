/- The walk of FnNextReferenceShiftsPastDollarFreePrefix. -/
import Derived.Test.Qxb6601656aNext
namespace Go.Proofs.Qxb6601656a.Shift
open Go.RowKit Go.Lib
theorem sized13_yes (p s : ByteArray) (w : World) (h : p.size + s.size ≤ 1048576) :
    Calls Try.prog 13 #[.string p, .string s] w fun e w' => e = .returned (.bool true) ∧ w' = w := by
  go_enter Try.func13, Try.ntmps13
  go_wp2
  go_ret
  exact ⟨rfl, rfl⟩

theorem sized13_no (p s : ByteArray) (w : World) (w0 : p.size ≤ maxLen) (w1 : s.size ≤ maxLen) (h : 1048576 < p.size + s.size) :
    Calls Try.prog 13 #[.string p, .string s] w fun e w' => e = .returned (.bool false) ∧ w' = w := by
  unfold maxLen at w0 w1
  by_cases h1 : 1048576 < p.size
  · go_enter Try.func13, Try.ntmps13
    go_wp2
    go_ret
    exact ⟨rfl, rfl⟩
  · by_cases h2 : 1048576 < s.size
    · go_enter Try.func13, Try.ntmps13
      go_wp2
      go_ret
      exact ⟨rfl, rfl⟩
    · go_enter Try.func13, Try.ntmps13
      go_wp2
      go_ret
      exact ⟨rfl, rfl⟩

theorem walk (p s : ByteArray) (w0 : p.size ≤ maxLen) (w1 : s.size ≤ maxLen) (w : World) (hsh : w.ShapedOpen Try.prog) :
    Calls Try.prog 5 #[.string p, .string s] w fun e w' => e = .returned (.bool true) ∧ w' = w := by
  by_cases hz : 1048576 < p.size + s.size
  · go_enter Try.func5, Try.ntmps5
    go_wp2_with fail
    refine (sized13_no p s _ w0 w1 hz).mono ?_
    rintro e w' ⟨rfl, rfl⟩
    go_wp2_with fail
    go_ret
    exact ⟨rfl, rfl⟩
  have hz' : p.size + s.size ≤ 1048576 := by omega
  clear hz
  by_cases h1 : 524288 < p.size
  · go_enter Try.func5, Try.ntmps5
    go_wp2_with fail
    refine (sized13_yes p s _ hz').mono ?_
    rintro e w' ⟨rfl, rfl⟩
    go_wp2_with fail
    go_ret
    exact ⟨rfl, rfl⟩
  by_cases h2 : 524288 < s.size
  · go_enter Try.func5, Try.ntmps5
    go_wp2_with fail
    refine (sized13_yes p s _ hz').mono ?_
    rintro e w' ⟨rfl, rfl⟩
    go_wp2_with fail
    go_ret
    exact ⟨rfl, rfl⟩
  have h1' : p.size ≤ 524288 := by omega
  have h2' : s.size ≤ 524288 := by omega
  clear h1 h2 w0 w1
  go_enter Try.func5, Try.ntmps5
  go_wp2_with fail
  refine (sized13_yes p s _ hz').mono ?_
  rintro e w' ⟨rfl, rfl⟩
  go_wp2_with fail
  go_loop [5] (fun i => ∃ k : Nat, k ≤ p.size ∧ i = .int .i64 k ∧ ∀ j : Nat, j < k → p.data.toList[j]? ≠ some 36) (fun i => p.size - (RowKit.intOf i).toNat)
  case atStart => exact ⟨0, Nat.zero_le _, rfl, fun j hj => absurd hj (Nat.not_lt_zero _)⟩
  case round =>
    obtain ⟨k, hk, rfl, hno⟩ := hrel
    have Hno := hide hno
    clear hno
    by_cases hlt : k < p.size
    · have hts := List.getElem?_eq_getElem (l := p.data.toList) (i := k) (by rw [bytes_len]; exact hlt)
      have Hts : Hid (p.data.toList[k]? = some p[k]) := hts
      clear hts
      go_wp2_with fail
      · go_ret
        exact ⟨rfl, rfl⟩
      · go_round
        case rel =>
          refine ⟨k + 1, by omega, by go_num, fun j hj => ?_⟩
          rcases Nat.lt_or_eq_of_le (Nat.le_of_lt_succ hj) with h' | h'
          · exact Hno.out j h'
          · subst h'
            rw [Hts.out]
            intro e
            have e' := Option.some.inj e
            rename_i hne
            rw [e'] at hne
            exact absurd hne (by decide)
        case measure => simp [RowKit.intOf]; omega
    · have hp : Hid (∀ j : Nat, p.data.toList[j]? ≠ some 36) := by
        intro j
        by_cases hj : j < k
        · exact Hno.out j hj
        · rw [List.getElem?_eq_none (by rw [bytes_len]; omega)]; simp
      clear Hno
      go_wp2_with fail
      refine (next11 s _ hsh (by omega)).mono ?_
      rintro e w1 ⟨rfl, rfl⟩
      have b1 := Plain.start_ge s.data.toList
      have b2 := Plain.start_lt s.data.toList
      have b3 := Plain.end_bounds s.data.toList
      rw [bytes_len] at b2 b3
      generalize ha : Plain.nrStart s.data.toList = a at *
      generalize hb : Plain.nrEnd s.data.toList = b at *
      have Ha := hide ha
      have Hb := hide hb
      clear ha hb
      have hd : Hid ((p ++ s).data.toList = p.data.toList ++ s.data.toList) := by simp [Hid]
      have e1 : Hid (Plain.nrStart (p ++ s).data.toList = if 0 ≤ a then a + p.size else -1) := by
        have := Plain.start_shift (s := s.data.toList) hp.out
        rw [← hd.out, Ha.out, bytes_len] at this
        exact this
      have e2 : Hid (Plain.nrEnd (p ++ s).data.toList = if 0 ≤ b then b + p.size else -1) := by
        have := Plain.end_shift (s := s.data.toList) hp.out
        rw [← hd.out, Hb.out, bytes_len] at this
        exact this
      clear hd
      go_wp2_with fail
      refine (next11 (p ++ s) _ hsh (by rw [ByteArray.size_append]; omega)).mono ?_
      rintro e w1 ⟨rfl, rfl⟩
      rw [e1.out, e2.out]
      by_cases h5 : 0 ≤ a
      · by_cases h6 : 0 ≤ b
        · rw [if_pos h5, if_pos h6]
          go_wp2_with fail
          go_ret
          exact ⟨rfl, rfl⟩
        · rw [if_pos h5, if_neg h6]
          go_wp2_with fail
          go_ret
          exact ⟨rfl, rfl⟩
      · by_cases h6 : 0 ≤ b
        · rw [if_neg h5, if_pos h6]
          go_wp2_with fail
          go_ret
          exact ⟨rfl, rfl⟩
        · rw [if_neg h5, if_neg h6]
          go_wp2_with fail
          go_ret
          exact ⟨rfl, rfl⟩
end Go.Proofs.Qxb6601656a.Shift
