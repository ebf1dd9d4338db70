/-
  The walk of FnUnescapeUndoesWriteStringOnOneByte (6).
-/
import Derived.Test.Qxb6001552aLenW
namespace Go.Proofs.Qxb6001552a
open Go.RowKit

/-- The three places and the four places of a byte array that is written out. -/
theorem at3 (b : ByteArray) (x y z : UInt8) (h : b.data.toList = [x, y, z]) :
    ∃ (p0 : 0 < b.size) (p1 : 1 < b.size) (p2 : 2 < b.size), b.size = 3 ∧ b[0] = x ∧ b[1] = y ∧ b[2] = z := by
  obtain ⟨p0, e0, d0⟩ := Plain.at_drop b 0 x [y, z] h
  obtain ⟨p1, e1, d1⟩ := Plain.at_drop b 1 y [z] d0
  obtain ⟨p2, e2, d2⟩ := Plain.at_drop b 2 z [] d1
  exact ⟨p0, p1, p2, by have := Plain.size_drop b 0 _ (Nat.zero_le _) h; simpa using this, e0, e1, e2⟩

theorem at4 (b : ByteArray) (x y z u : UInt8) (h : b.data.toList = [x, y, z, u]) :
    ∃ (p0 : 0 < b.size) (p1 : 1 < b.size) (p2 : 2 < b.size) (p3 : 3 < b.size), b.size = 4 ∧ b[0] = x ∧ b[1] = y ∧ b[2] = z ∧ b[3] = u := by
  obtain ⟨p0, e0, d0⟩ := Plain.at_drop b 0 x [y, z, u] h
  obtain ⟨p1, e1, d1⟩ := Plain.at_drop b 1 y [z, u] d0
  obtain ⟨p2, e2, d2⟩ := Plain.at_drop b 2 z [u] d1
  obtain ⟨p3, e3, d3⟩ := Plain.at_drop b 3 u [] d2
  exact ⟨p0, p1, p2, p3, by have := Plain.size_drop b 0 _ (Nat.zero_le _) h; simpa using this, e0, e1, e2, e3⟩

set_option maxHeartbeats 1000000 in
theorem one_quote (w : World) :
    Calls Try.prog 6 #[.int .u8 39] w fun e w' => e = .returned (.bool true) ∧ Below w.heap.size w w' := by
  have hcv : (convert 26 9 (.slice (some ⟨w.heap.size, 0, none⟩) 1 1)).run Try.prog (w.alloc (.cells #[.int .u8 39] 5)) = .ok (.string ⟨#[39]⟩) (w.alloc (.cells #[.int .u8 39] 5)) := conv_one 39 w
  have hlen : (ByteArray.mk #[39]).size ≤ 1048576 := by show 1 ≤ 1048576; decide
  have b0 : Below w.heap.size w (w.alloc (.cells #[.int .u8 39] 5)) := (Below.refl _ _).alloc (Nat.le_refl _) _
  go_enter Try.func6, Try.ntmps6
  go_wp2_with (go_at_call 8; refine (zzWrite_any ⟨#[39]⟩ _ hlen).mono ?_; rintro e w1 ⟨rfl, hb1⟩)
  go_ret
  exact ⟨rfl, b0.trans (hb1.mono b0.size)⟩

set_option maxHeartbeats 1000000 in
theorem one_walk (x : UInt8) (w : World) :
    Calls Try.prog 6 #[.int .u8 x.toNat] w fun e w' => e = .returned (.bool true) ∧ Below w.heap.size w w' := by
  have hcv := conv_one x w
  have hlen : (ByteArray.mk #[x]).size ≤ 1048576 := by show 1 ≤ 1048576; decide
  have b0 : Below w.heap.size w (w.alloc (.cells #[.int .u8 (x.toNat : Int)] 5)) := (Below.refl _ _).alloc (Nat.le_refl _) _
  have bs : w.heap.size ≤ (w.alloc (.cells #[.int .u8 (x.toNat : Int)] 5)).heap.size := b0.size
  obtain ⟨b, hb⟩ : ∃ b : ByteArray, b = ⟨(Plain.lit [x]).toArray⟩ := ⟨_, rfl⟩
  have hd : b.data.toList = Plain.lit [x] := by rw [hb]
  have HB : Hid (b = ⟨(Plain.lit (ByteArray.mk #[x]).data.toList).toArray⟩) := hb
  clear hb
  by_cases h39 : x = 39
  · subst h39
    exact one_quote w
  · have g39 : (x.toNat : Int) ≠ 39 := fun hk => h39 (UInt8.toNat_inj.1 (by show x.toNat = 39; omega))
    rcases Plain.one_two x h39 with ⟨h3, h92⟩ | ⟨c, h4, hc⟩
    · obtain ⟨p0, p1, p2, hsz, e0, e1, e2⟩ := at3 b 39 x 39 (by rw [hd, h3])
      have f0 : ((b[0]'p0).toNat : Int) = 39 := by rw [e0]; rfl
      have f1 : ((b[1]'p1).toNat : Int) = x.toNat := by rw [e1]
      have f2 : ((b[2]'p2).toNat : Int) = 39 := by rw [e2]; rfl
      clear e0 e1 e2 h3 h92 hd h39
      go_enter Try.func6, Try.ntmps6
      go_wp2_with (go_at_call 8; refine (zzWrite_any ⟨#[x]⟩ _ hlen).mono ?_; rw [← HB.out]; rintro e w1 ⟨rfl, hb1⟩)
      go_ret
      exact ⟨rfl, b0.trans (hb1.mono bs)⟩
    · obtain ⟨p0, p1, p2, p3, hsz, e0, e1, e2, e3⟩ := at4 b 39 92 c 39 (by rw [hd, h4])
      have f0 : ((b[0]'p0).toNat : Int) = 39 := by rw [e0]; rfl
      have f1 : ((b[1]'p1).toNat : Int) = 92 := by rw [e1]; rfl
      have f2 : ((b[2]'p2).toNat : Int) = c.toNat := by rw [e2]
      have f3 : ((b[3]'p3).toNat : Int) = 39 := by rw [e3]; rfl
      have HC : Hid (Plain.unesc c = [x]) := hc
      clear e0 e1 e2 e3 h4 hd h39 hc
      go_enter Try.func6, Try.ntmps6
      go_wp2_with (first | (go_at_call 8; refine (zzWrite_any ⟨#[x]⟩ _ hlen).mono ?_; rw [← HB.out]; rintro e w1 ⟨rfl, hb1⟩) | (go_at_call 12; refine (zzUnescape_any c _).mono ?_; rw [HC.out]; rintro e w2 ⟨rfl, hb2⟩))
      go_ret
      exact ⟨rfl, (b0.trans (hb1.mono bs)).trans (hb2.mono (Nat.le_trans bs hb1.size))⟩
end Go.Proofs.Qxb6001552a
