/- The walk of FnNextReferenceIsFirstOpeningAndItsFirstClose. -/
import Derived.Test.Qxb6601656aNext
namespace Go.Proofs.Qxb6601656a.First
open Go.RowKit Go.Lib

theorem get_at (s : ByteArray) (k : Nat) (h : k < s.size) : s.data.toList[k]? = some s[k] := List.getElem?_eq_getElem (l := s.data.toList) (i := k) (by rw [bytes_len]; exact h)

theorem byte_eq {s : ByteArray} {k : Nat} {h : k < s.size} {c : UInt8} (e : s.data.toList[k]? = some c) : ((s[k].toNat : Int) == c.toNat) = true := by
  rw [get_at s k h] at e
  rw [Option.some.inj e]
  exact beq_iff_eq.2 rfl

theorem byte_ne {s : ByteArray} {k : Nat} {h : k < s.size} {c : UInt8} (e : s.data.toList[k]? ≠ some c) : ((s[k].toNat : Int) == c.toNat) = false := by
  rw [get_at s k h] at e
  rw [beq_eq_false_iff_ne]
  intro e'
  apply e
  rw [UInt8.toNat_inj.1 (Int.ofNat.inj e')]

/-- zzOpensAt, where the opening stands. -/
theorem opens_yes (s : ByteArray) (i : Nat) (w : World) (hs : s.size ≤ 1048576) (ho : Hid (occAt s.data.toList [36, 123] i = true)) :
    Calls Try.prog 12 #[.string s, .int .i64 i] w fun e w' => e = .returned (.bool true) ∧ w' = w := by
  obtain ⟨h1, h2⟩ := (Plain.occ_iff _ _).1 ho.out
  have hlt : i + 1 < s.size := by
    by_cases h : i + 1 < s.size
    · exact h
    · rw [List.getElem?_eq_none (by rw [bytes_len]; omega)] at h2; cases h2
  have hi : i < s.size := by omega
  have g1 : ((s[i].toNat : Int) == 36) = true := byte_eq (h := hi) h1
  have g2 : ((s[i + 1].toNat : Int) == 123) = true := byte_eq (h := hlt) h2
  clear h1 h2
  go_enter Try.func12, Try.ntmps12
  go_wp2
  go_ret
  exact ⟨rfl, rfl⟩

theorem opens_no (s : ByteArray) (i : Nat) (w : World) (hs : s.size ≤ 1048576) (hi : i < s.size) (ho : Hid (occAt s.data.toList [36, 123] i = false)) :
    Calls Try.prog 12 #[.string s, .int .i64 i] w fun e w' => e = .returned (.bool false) ∧ w' = w := by
  by_cases hlt : i + 1 < s.size
  · by_cases h1 : s.data.toList[i]? = some 36
    · have h2 : s.data.toList[i + 1]? ≠ some 123 := fun h2 => by
        have := (Plain.occ_iff s.data.toList i).2 ⟨h1, h2⟩
        rw [ho.out] at this; cases this
      have g1 : ((s[i].toNat : Int) == 36) = true := byte_eq (h := hi) h1
      have g2 : ((s[i + 1].toNat : Int) == 123) = false := byte_ne (h := hlt) h2
      clear h1 h2
      go_enter Try.func12, Try.ntmps12
      go_wp2
      go_ret
      exact ⟨rfl, rfl⟩
    · have g1 : ((s[i].toNat : Int) == 36) = false := byte_ne (h := hi) h1
      clear h1
      go_enter Try.func12, Try.ntmps12
      go_wp2
      go_ret
      exact ⟨rfl, rfl⟩
  · go_enter Try.func12, Try.ntmps12
    go_wp2
    go_ret
    exact ⟨rfl, rfl⟩

theorem sized10_yes (s : ByteArray) (w : World) (h : s.size ≤ 1048576) :
    Calls Try.prog 10 #[.string s] w fun e w' => e = .returned (.bool true) ∧ w' = w := by
  go_enter Try.func10, Try.ntmps10
  go_wp2
  go_ret
  exact ⟨rfl, rfl⟩

theorem sized10_no (s : ByteArray) (w : World) (w0 : s.size ≤ maxLen) (h : 1048576 < s.size) :
    Calls Try.prog 10 #[.string s] w fun e w' => e = .returned (.bool false) ∧ w' = w := by
  unfold maxLen at w0
  go_enter Try.func10, Try.ntmps10
  go_wp2
  go_ret
  exact ⟨rfl, rfl⟩

set_option maxHeartbeats 400000 in
theorem walk (s : ByteArray) (w0 : s.size ≤ maxLen) (w : World) (hsh : w.ShapedOpen Try.prog) :
    Calls Try.prog 4 #[.string s] w fun e w' => e = .returned (.bool true) ∧ w' = w := by
  by_cases hz : 1048576 < s.size
  · go_enter Try.func4, Try.ntmps4
    go_wp2_with fail
    refine (sized10_no s _ w0 hz).mono ?_
    rintro e w' ⟨rfl, rfl⟩
    go_wp2_with fail
    go_ret
    exact ⟨rfl, rfl⟩
  have hz' : s.size ≤ 1048576 := by omega
  clear hz w0
  have b1 := Plain.start_ge s.data.toList
  have b2 := Plain.start_lt s.data.toList
  have b3 := Plain.end_bounds s.data.toList
  rw [bytes_len] at b2 b3
  by_cases hneg : Plain.nrStart s.data.toList < 0
  · have hno : Hid (∀ j, occAt s.data.toList [36, 123] j = false) := Plain.start_none hneg
    have e1 : Hid (Plain.nrStart s.data.toList = -1) := by unfold Hid; omega
    have e2 : Hid (Plain.nrEnd s.data.toList = -1) := by unfold Hid Plain.nrEnd; rw [if_pos hneg]
    clear b1 b2 b3 hneg
    go_enter Try.func4, Try.ntmps4
    go_wp2_with fail
    refine (sized10_yes s _ hz').mono ?_
    rintro e w' ⟨rfl, rfl⟩
    go_wp2_with fail
    refine (next11 s _ hsh (by omega)).mono ?_
    rintro e w' ⟨rfl, rfl⟩
    rw [e1.out, e2.out]
    go_wp2_with fail
    go_loop [5] (fun i => ∃ k : Nat, k ≤ s.size ∧ i = .int .i64 k) (fun i => s.size - (RowKit.intOf i).toNat)
    case atStart => exact ⟨0, Nat.zero_le _, rfl⟩
    case round =>
      obtain ⟨k, hk, rfl⟩ := hrel
      by_cases hlt : k < s.size
      · go_wp2_with fail
        refine (opens_no s k _ hz' hlt (hno.out k)).mono ?_
        rintro e w' ⟨rfl, rfl⟩
        go_wp2_with fail
        go_round
        case rel => exact ⟨k + 1, by omega, by go_num⟩
        case measure => simp [RowKit.intOf]; omega
      · go_wp2_with fail
        go_ret
        exact ⟨rfl, rfl⟩
  obtain ⟨n, hn⟩ := Int.eq_ofNat_of_zero_le (by omega : 0 ≤ Plain.nrStart s.data.toList)
  obtain ⟨o1, o2, o3⟩ := Plain.start_occ hn
  rw [bytes_len] at o3
  have O1 := hide o1
  have O2 : Hid (NoOcc s.data.toList [36, 123] n) := o2
  have Hn := hide hn
  by_cases hend : Plain.nrEnd s.data.toList = -1
  · have E := hide (Plain.end_none hn hend)
    have He := hide hend
    clear b1 b2 b3 hneg hend o1 o2 hn
    go_enter Try.func4, Try.ntmps4
    go_wp2_with fail
    refine (sized10_yes s _ hz').mono ?_
    rintro e w' ⟨rfl, rfl⟩
    go_wp2_with fail
    refine (next11 s _ hsh (by omega)).mono ?_
    rintro e w' ⟨rfl, rfl⟩
    rw [Hn.out, He.out]
    go_wp2_with fail
    refine (opens_yes s n _ hz' O1).mono ?_
    rintro e w' ⟨rfl, rfl⟩
    go_wp2_with fail
    go_loop [6] (fun i => ∃ k : Nat, k ≤ n ∧ i = .int .i64 k) (fun i => n - (RowKit.intOf i).toNat)
    case atStart => exact ⟨0, Nat.zero_le _, rfl⟩
    case round =>
      obtain ⟨k, hk, rfl⟩ := hrel
      by_cases hlt : k < n
      · go_wp2_with fail
        refine (opens_no s k _ hz' (by omega) (O2.out k hlt)).mono ?_
        rintro e w' ⟨rfl, rfl⟩
        go_wp2_with fail
        go_round
        case rel => exact ⟨k + 1, by omega, by go_num⟩
        case measure => simp [RowKit.intOf]; omega
      · go_wp2_with fail
        go_loop [7] (fun i => ∃ k : Nat, n + 2 ≤ k ∧ k ≤ s.size ∧ i = .int .i64 k) (fun i => s.size - (RowKit.intOf i).toNat)
        case atStart => exact ⟨n + 2, by omega, by omega, by go_num⟩
        case round =>
          obtain ⟨m, hm1, hm2, rfl⟩ := hrel
          by_cases hlt2 : m < s.size
          · have g : ((s[m].toNat : Int) == 125) = false := byte_ne (h := hlt2) (E.out m hm1)
            go_wp2_with fail
            go_round
            case rel => exact ⟨m + 1, by omega, by omega, by go_num⟩
            case measure => simp [RowKit.intOf]; omega
          · go_wp2_with fail
            go_ret
            exact ⟨rfl, rfl⟩
  · obtain ⟨m, m1, m2, m3, m4, m5⟩ := Plain.end_some hn hend
    rw [bytes_len] at m3
    have M1 : Hid (Plain.nrEnd s.data.toList = (m : Int) + 1) := by unfold Hid; omega
    have M5 := hide m5
    have g4 : ((s[m].toNat : Int) != 125) = false := by rw [bne, show ((s[m].toNat : Int) == 125) = true from byte_eq (h := m3) m4]; rfl
    clear b1 b2 b3 hneg hend o1 o2 hn m1 m4 m5
    go_enter Try.func4, Try.ntmps4
    go_wp2_with fail
    refine (sized10_yes s _ hz').mono ?_
    rintro e w' ⟨rfl, rfl⟩
    go_wp2_with fail
    refine (next11 s _ hsh (by omega)).mono ?_
    rintro e w' ⟨rfl, rfl⟩
    rw [Hn.out, M1.out]
    go_wp2_with fail
    refine (opens_yes s n _ hz' O1).mono ?_
    rintro e w' ⟨rfl, rfl⟩
    go_wp2_with fail
    go_loop [6] (fun i => ∃ k : Nat, k ≤ n ∧ i = .int .i64 k) (fun i => n - (RowKit.intOf i).toNat)
    case atStart => exact ⟨0, Nat.zero_le _, rfl⟩
    case round =>
      obtain ⟨k, hk, rfl⟩ := hrel
      by_cases hlt : k < n
      · go_wp2_with fail
        refine (opens_no s k _ hz' (by omega) (O2.out k hlt)).mono ?_
        rintro e w' ⟨rfl, rfl⟩
        go_wp2_with fail
        go_round
        case rel => exact ⟨k + 1, by omega, by go_num⟩
        case measure => simp [RowKit.intOf]; omega
      · go_wp2_with fail
        go_loop [8] (fun i => ∃ k : Nat, n + 2 ≤ k ∧ k ≤ m ∧ i = .int .i64 k) (fun i => m - (RowKit.intOf i).toNat)
        case atStart => exact ⟨n + 2, by omega, by omega, by go_num⟩
        case round =>
          obtain ⟨j, hj1, hj2, rfl⟩ := hrel
          by_cases hlt2 : j < m
          · have hjs : j < s.size := by omega
            have g : ((s[j].toNat : Int) == 125) = false := byte_ne (h := hjs) (M5.out j hj1 hlt2)
            go_wp2_with fail
            go_round
            case rel => exact ⟨j + 1, by omega, by omega, by go_num⟩
            case measure => simp [RowKit.intOf]; omega
          · go_wp2_with fail
            go_ret
            exact ⟨rfl, rfl⟩
end Go.Proofs.Qxb6601656a.First
