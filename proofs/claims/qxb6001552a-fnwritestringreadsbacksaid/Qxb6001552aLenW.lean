/-
  The walk of FnWriteStringLengthBounds (5).
-/
import Derived.Test.Qxb6001552aWrite
namespace Go.Proofs.Qxb6001552a
open Go.RowKit

theorem ret_true {b : Bool} (h : b = true) : Ending.returned (.bool b) = .returned (.bool true) := by rw [h]

theorem lit_size (l : List UInt8) : (ByteArray.mk (Plain.lit l).toArray).size = (Plain.lit l).length := by
  show (Plain.lit l).toArray.size = _
  simp

set_option maxHeartbeats 400000 in
theorem len_walk (s : ByteArray) (hs : s.size ≤ maxLen) (w : World) :
    Calls Try.prog 5 #[.string s] w fun e w' => e = .returned (.bool true) ∧ Below w.heap.size w w' := by
  by_cases h : s.size ≤ 1048576
  · obtain ⟨b, hb⟩ : ∃ b : ByteArray, b = ⟨(Plain.lit s.data.toList).toArray⟩ := ⟨_, rfl⟩
    have hl := Plain.escs_len s.data.toList
    have e0 : s.data.toList.length = s.size := by simp
    have e1 : b.size = (Plain.escs s.data.toList).length + 2 := by rw [hb, lit_size]; simp [Plain.lit]
    have l1 : s.size + 2 ≤ b.size := by omega
    have l2 : b.size ≤ 2 * s.size + 2 := by omega
    have HB : Hid (b = ⟨(Plain.lit s.data.toList).toArray⟩) := hb
    clear hl e0 e1 hb
    go_enter Try.func5, Try.ntmps5
    go_wp2_with (first | (go_at_call 11; refine (zz11_true s _ h).mono ?_; rintro e w' ⟨rfl, rfl⟩) | (go_at_call 8; refine (zzWrite_any s _ h).mono ?_; rw [← HB.out]; rintro e w' ⟨rfl, hbw⟩))
    go_ret
    exact ⟨ret_true (decide_eq_true (by omega)), by assumption⟩
  · go_enter Try.func5, Try.ntmps5
    go_wp2_with (go_at_call 11; refine (zz11_false s _ (by omega) hs).mono ?_; rintro e w' ⟨rfl, rfl⟩)
    go_ret
    exact ⟨rfl, Below.refl _ _⟩
end Go.Proofs.Qxb6001552a
