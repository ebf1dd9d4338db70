/-
  The walks of the small functions: the three bounds on the length (7, 10, 11), unescape (15), ZZUnescape (12).
-/
import Derived.Test.Qxb6001552aRows
import Derived.Test.Qxb6001552aPlain
import Derived.WalkKit
import Derived.WalkSpells
import Derived.WalkLawsBesides
namespace Go.Proofs.Qxb6001552a
open Go.RowKit

set_option maxHeartbeats 400000 in
theorem zz7_true (s : ByteArray) (w : World) (h : s.size ≤ 1048576) :
    Calls Try.prog 7 #[.string s] w fun e w' => e = .returned (.bool true) ∧ w' = w := by
  go_enter Try.func7, Try.ntmps7
  go_wp2
  go_ret
  exact ⟨rfl, rfl⟩

set_option maxHeartbeats 400000 in
theorem zz7_false (s : ByteArray) (w : World) (h : 1048576 < s.size) (hs : s.size ≤ maxLen) :
    Calls Try.prog 7 #[.string s] w fun e w' => e = .returned (.bool false) ∧ w' = w := by
  unfold maxLen at hs
  go_enter Try.func7, Try.ntmps7
  go_wp2
  go_ret
  exact ⟨rfl, rfl⟩

set_option maxHeartbeats 400000 in
theorem zz10_true (s : ByteArray) (w : World) (h : s.size ≤ 1048576) :
    Calls Try.prog 10 #[.string s] w fun e w' => e = .returned (.bool true) ∧ w' = w := by
  go_enter Try.func10, Try.ntmps10
  go_wp2
  go_ret
  exact ⟨rfl, rfl⟩

set_option maxHeartbeats 400000 in
theorem zz10_false (s : ByteArray) (w : World) (h : 1048576 < s.size) (hs : s.size ≤ maxLen) :
    Calls Try.prog 10 #[.string s] w fun e w' => e = .returned (.bool false) ∧ w' = w := by
  unfold maxLen at hs
  go_enter Try.func10, Try.ntmps10
  go_wp2
  go_ret
  exact ⟨rfl, rfl⟩

set_option maxHeartbeats 400000 in
theorem zz11_true (s : ByteArray) (w : World) (h : s.size ≤ 1048576) :
    Calls Try.prog 11 #[.string s] w fun e w' => e = .returned (.bool true) ∧ w' = w := by
  go_enter Try.func11, Try.ntmps11
  go_wp2
  go_ret
  exact ⟨rfl, rfl⟩

set_option maxHeartbeats 400000 in
theorem zz11_false (s : ByteArray) (w : World) (h : 1048576 < s.size) (hs : s.size ≤ maxLen) :
    Calls Try.prog 11 #[.string s] w fun e w' => e = .returned (.bool false) ∧ w' = w := by
  unfold maxLen at hs
  go_enter Try.func11, Try.ntmps11
  go_wp2
  go_ret
  exact ⟨rfl, rfl⟩

/-- 'string([]byte{c})': the new row, read back. -/
theorem conv_one (c : UInt8) (w : World) : (convert 26 9 (.slice (some ⟨w.heap.size, 0, none⟩) 1 1)).run Try.prog (w.alloc (.cells #[.int .u8 (c.toNat : Int)] 5)) = .ok (.string ⟨#[c]⟩) (w.alloc (.cells #[.int .u8 (c.toNat : Int)] 5)) := by
  have := run_convert_bytes_back (P := Try.prog) (w.alloc (.cells #[.int .u8 (c.toNat : Int)] 5)) 26 9 5 ⟨w.heap.size, 0, none⟩ 1 [c] Try.underlying26 Try.underlying5 Try.underlying9 (by
    intro j hj
    match j, hj with
    | 0, _ => simp [Addr.add])
  exact this

theorem enc37 : Utf8.encode 37 = ⟨#[37]⟩ := by decide
theorem enc95 : Utf8.encode 95 = ⟨#[95]⟩ := by decide

set_option maxHeartbeats 400000 in
theorem unescape_plain (c : UInt8) (w : World) (h0 : (c.toNat : Int) ≠ 48) (h1 : (c.toNat : Int) ≠ 98) (h2 : (c.toNat : Int) ≠ 110) (h3 : (c.toNat : Int) ≠ 114) (h4 : (c.toNat : Int) ≠ 116) (h5 : (c.toNat : Int) ≠ 90) (h6 : (c.toNat : Int) ≠ 37) (h7 : (c.toNat : Int) ≠ 95) :
    Calls Try.prog 15 #[.int .u8 c.toNat] w fun e w' => e = .returned (.string ⟨#[c]⟩) ∧ Below w.heap.size w w' := by
  have hcb := conv_one c w
  go_enter Try.func15, Try.ntmps15
  go_wp2
  go_ret
  exact ⟨rfl, (Below.refl _ _).alloc (Nat.le_refl _) _⟩

set_option maxHeartbeats 400000 in
theorem unescape_any (c : UInt8) (w : World) :
    Calls Try.prog 15 #[.int .u8 c.toNat] w fun e w' => e = .returned (.string ⟨(Plain.unesc c).toArray⟩) ∧ Below w.heap.size w w' := by
  by_cases h48 : c = 48
  · subst h48
    go_enter Try.func15, Try.ntmps15
    go_wp2
    go_ret
    exact ⟨rfl, Below.refl _ _⟩
  by_cases h98 : c = 98
  · subst h98
    go_enter Try.func15, Try.ntmps15
    go_wp2
    go_ret
    exact ⟨rfl, Below.refl _ _⟩
  by_cases h110 : c = 110
  · subst h110
    go_enter Try.func15, Try.ntmps15
    go_wp2
    go_ret
    exact ⟨rfl, Below.refl _ _⟩
  by_cases h114 : c = 114
  · subst h114
    go_enter Try.func15, Try.ntmps15
    go_wp2
    go_ret
    exact ⟨rfl, Below.refl _ _⟩
  by_cases h116 : c = 116
  · subst h116
    go_enter Try.func15, Try.ntmps15
    go_wp2
    go_ret
    exact ⟨rfl, Below.refl _ _⟩
  by_cases h90 : c = 90
  · subst h90
    go_enter Try.func15, Try.ntmps15
    go_wp2
    go_ret
    exact ⟨rfl, Below.refl _ _⟩
  by_cases h37 : c = 37
  · subst h37
    have hu := enc37
    go_enter Try.func15, Try.ntmps15
    go_wp2
    go_ret
    exact ⟨rfl, Below.refl _ _⟩
  by_cases h95 : c = 95
  · subst h95
    have hu := enc95
    go_enter Try.func15, Try.ntmps15
    go_wp2
    go_ret
    exact ⟨rfl, Below.refl _ _⟩
  have e : Plain.unesc c = [c] := by simp [Plain.unesc, *]
  rw [e]
  have ne : ∀ k : UInt8, c ≠ k → (c.toNat : Int) ≠ (k.toNat : Int) := fun k h hk => h (UInt8.toNat_inj.1 (by omega))
  exact unescape_plain c w (ne 48 h48) (ne 98 h98) (ne 110 h110) (ne 114 h114) (ne 116 h116) (ne 90 h90) (ne 37 h37) (ne 95 h95)

set_option maxHeartbeats 400000 in
/-- ZZUnescape is unescape. -/
theorem zzUnescape_any (c : UInt8) (w : World) :
    Calls Try.prog 12 #[.int .u8 c.toNat] w fun e w' => e = .returned (.string ⟨(Plain.unesc c).toArray⟩) ∧ Below w.heap.size w w' := by
  go_enter Try.func12, Try.ntmps12
  go_wp2_with (go_at_call 15; refine (unescape_any c _).mono ?_)
  rintro e w1 ⟨rfl, hb⟩
  go_wp2
  go_ret
  exact ⟨rfl, hb⟩

end Go.Proofs.Qxb6001552a
