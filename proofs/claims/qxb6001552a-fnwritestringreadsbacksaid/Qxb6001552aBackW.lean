/-
  The walk of FnWriteStringReadsBack (3).
-/
import Derived.Test.Qxb6001552aRead
import Derived.Test.Qxb6001552aLenW
namespace Go.Proofs.Qxb6001552a
open Go.RowKit

theorem back_bytes (s : ByteArray) : (⟨s.data.toList.toArray⟩ : ByteArray) = s := by simp

set_option maxHeartbeats 400000 in
theorem back_walk (s : ByteArray) (hs : s.size ≤ maxLen) (w : World) :
    Calls Try.prog 3 #[.string s] w fun e w' => e = .returned (.bool true) ∧ Below w.heap.size w w' := by
  by_cases h : s.size ≤ 1048576
  · obtain ⟨b, hb⟩ : ∃ b : ByteArray, b = ⟨(Plain.lit s.data.toList).toArray⟩ := ⟨_, rfl⟩
    have hl := Plain.escs_len s.data.toList
    have e0 : s.data.toList.length = s.size := by simp
    have e1 : b.size = (Plain.escs s.data.toList).length + 2 := by rw [hb, lit_size]; simp [Plain.lit]
    have l2 : b.size ≤ 4194304 := by omega
    have l3 : s.data.toList.length ≤ 4194304 := by omega
    have HB : Hid (b = ⟨(Plain.lit s.data.toList).toArray⟩) := hb
    have HD : Hid (b.data.toList = 39 :: (Plain.escs s.data.toList ++ [39])) := by rw [hb]; rfl
    clear hl e0 e1 hb
    go_enter Try.func3, Try.ntmps3
    go_wp2_with (first | (go_at_call 7; refine (zz7_true s _ h).mono ?_; rintro e w' ⟨rfl, rfl⟩) | (go_at_call 8; refine (zzWrite_any s _ h).mono ?_; rw [← HB.out]; rintro e w1 ⟨rfl, hb1⟩) | (go_at_call 9; refine (readLiteral_any b _ _ _ HD.out (Plain.rd_escs _) l3 l2).mono ?_; rw [back_bytes]; rintro e w2 ⟨rfl, hb2⟩))
    go_ret
    exact ⟨rfl, hb1.trans (hb2.mono hb1.size)⟩
  · go_enter Try.func3, Try.ntmps3
    go_wp2_with (go_at_call 7; refine (zz7_false s _ (by omega) hs).mono ?_; rintro e w' ⟨rfl, rfl⟩)
    go_ret
    exact ⟨rfl, Below.refl _ _⟩
end Go.Proofs.Qxb6001552a
