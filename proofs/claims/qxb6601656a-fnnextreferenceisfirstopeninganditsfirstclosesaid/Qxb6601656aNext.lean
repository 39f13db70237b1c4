/- The walks of nextReference and of its shim, by the contracts of the library's search. -/
import Derived.Test.Qxb6601656aShelf
import Derived.Test.Qxb6601656aPlain
import Derived.WalkKit
import Derived.WalkSpells
namespace Go.Proofs.Qxb6601656a
open Go.RowKit Go.Lib
theorem hide {p : Prop} (h : p) : Hid p := h
theorem bytes_len (s : ByteArray) : s.data.toList.length = s.size := rfl

theorem next16_none (s : ByteArray) (w : World) (h : w.ShapedOpen Try.prog) (hs : s.size < 4294967281) (hi : Hid (Plain.nrStart s.data.toList = -1)) :
    Calls Try.prog 16 #[.string s] w fun e w' => e = .returned (.tuple #[.int .i64 (-1), .int .i64 (-1)]) ∧ w' = w := by
  go_enter Try.func16, Try.ntmps16
  go_wp2_with fail
  refine (Try.strings_Index_shaped _ _ _ h hs).mono ?_
  rintro e w' ⟨rfl, rfl⟩
  rw [show Lib.index s.data.toList (ByteArray.mk #[36, 123]).data.toList = -1 from hi.out]
  go_wp2_with fail
  go_ret2
  exact ⟨rfl, rfl⟩

theorem next16_some (s : ByteArray) (a c : Int) (w : World) (h : w.ShapedOpen Try.prog) (hs : s.size < 4294967281)
    (hi : Hid (Plain.nrStart s.data.toList = a)) (h0 : 0 ≤ a) (h1 : a + 2 ≤ s.size)
    (hj : Hid (Plain.nrClose s.data.toList (a + 2) = c)) (h2 : -1 ≤ c) (h3 : c < 4294967281) :
    Calls Try.prog 16 #[.string s] w fun e w' => e = .returned (.tuple #[.int .i64 a, .int .i64 (if c < 0 then -1 else a + 2 + c + 1)]) ∧ w' = w := by
  have he : Hid (Lib.indexByte (s.extract (a + 2).toNat s.size).data.toList (125 : Int).toNat.toUInt8 = c) := by
    have := hj.out
    unfold Plain.nrClose at this
    have e : (s.extract (a + 2).toNat s.size).data.toList = s.data.toList.drop (a + 2).toNat := by
      rw [Lib.extract_data]
      rw [List.take_of_length_le (by simp)]
    rw [e]
    exact this
  by_cases hc : c < 0
  · go_enter Try.func16, Try.ntmps16
    go_wp2_with fail
    refine (Try.strings_Index_shaped _ _ _ h hs).mono ?_
    rintro e w' ⟨rfl, rfl⟩
    rw [show Lib.index s.data.toList (ByteArray.mk #[36, 123]).data.toList = a from hi.out]
    go_wp2_with fail
    refine (Try.strings_IndexByte _ _ _).mono ?_
    rintro e w' ⟨rfl, rfl⟩
    rw [he.out]
    go_wp2_with fail
    go_ret2
    exact ⟨rfl, rfl⟩
  · go_enter Try.func16, Try.ntmps16
    go_wp2_with fail
    refine (Try.strings_Index_shaped _ _ _ h hs).mono ?_
    rintro e w' ⟨rfl, rfl⟩
    rw [show Lib.index s.data.toList (ByteArray.mk #[36, 123]).data.toList = a from hi.out]
    go_wp2_with fail
    refine (Try.strings_IndexByte _ _ _).mono ?_
    rintro e w' ⟨rfl, rfl⟩
    rw [he.out]
    go_wp2_with fail
    go_ret2
    exact ⟨rfl, rfl⟩

/-- The Go function 'nextReference'. -/
theorem next16 (s : ByteArray) (w : World) (h : w.ShapedOpen Try.prog) (hs : s.size < 4294967281) :
    Calls Try.prog 16 #[.string s] w fun e w' => e = .returned (.tuple #[.int .i64 (Plain.nrStart s.data.toList), .int .i64 (Plain.nrEnd s.data.toList)]) ∧ w' = w := by
  have b1 := Plain.start_ge s.data.toList
  have b2 := Plain.start_lt s.data.toList
  rw [bytes_len] at b2
  by_cases h0 : Plain.nrStart s.data.toList < 0
  · have e1 : Plain.nrStart s.data.toList = -1 := by omega
    have e2 : Plain.nrEnd s.data.toList = -1 := by unfold Plain.nrEnd; rw [if_pos h0]
    rw [e1, e2]
    exact next16_none s w h hs (hide e1)
  · have c1 := Plain.close_ge s.data.toList (Plain.nrStart s.data.toList + 2)
    have c2 := Plain.close_lt s.data.toList (Plain.nrStart s.data.toList + 2) (by omega) (by rw [bytes_len]; omega)
    rw [bytes_len] at c2
    have e2 : Plain.nrEnd s.data.toList = if Plain.nrClose s.data.toList (Plain.nrStart s.data.toList + 2) < 0 then -1 else Plain.nrStart s.data.toList + 2 + Plain.nrClose s.data.toList (Plain.nrStart s.data.toList + 2) + 1 := by unfold Plain.nrEnd; rw [if_neg h0]
    rw [e2]
    exact next16_some s _ _ w h hs (hide rfl) (by omega) (by omega) (hide rfl) c1 (by omega)

theorem next11 (s : ByteArray) (w : World) (h : w.ShapedOpen Try.prog) (hs : s.size < 4294967281) :
    Calls Try.prog 11 #[.string s] w fun e w' => e = .returned (.tuple #[.int .i64 (Plain.nrStart s.data.toList), .int .i64 (Plain.nrEnd s.data.toList)]) ∧ w' = w := by
  go_enter Try.func11, Try.ntmps11
  go_wp2_with fail
  refine (next16 _ _ h hs).mono ?_
  rintro e w' ⟨rfl, rfl⟩
  go_wp2_with fail
  go_ret2
  exact ⟨rfl, rfl⟩

end Go.Proofs.Qxb6601656a
