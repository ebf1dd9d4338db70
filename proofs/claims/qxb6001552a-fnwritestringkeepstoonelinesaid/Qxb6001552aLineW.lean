/-
  The walk of FnWriteStringKeepsToOneLine (4).
-/
import Derived.Test.Qxb6001552aLenW
namespace Go.Proofs.Qxb6001552a
open Go.RowKit

/-- The loop's own law, at a literal that is written out: 'quote, inner, quote', inner let by 'scan'. -/
theorem scan_cases (r : Nat) (c : UInt8) (t : List UInt8) (h : Plain.scan r (c :: t) = true) :
    (c = 39 ∧ Plain.scan (r + 1) t = true) ∨ (c ≠ 39 ∧ r % 2 = 0 ∧ Plain.scan 0 t = true ∧ c ≠ 0 ∧ c ≠ 10 ∧ c ≠ 13 ∧ c ≠ 9 ∧ c ≠ 26) := by
  simp only [Plain.scan] at h
  by_cases hb : Plain.bad c = true
  · simp [hb] at h
  · by_cases h1 : c = 39
    · left; subst h1; exact ⟨rfl, by simpa [Plain.bad] using h⟩
    · right
      simp [Plain.bad] at hb
      simp [Plain.bad, h1, hb] at h
      exact ⟨h1, h.1, h.2, hb.1.1.1.1, hb.1.1.1.2, hb.1.1.2, hb.1.2, hb.2⟩

set_option maxHeartbeats 1000000 in
theorem line_walk (s : ByteArray) (hs : s.size ≤ maxLen) (w : World) :
    Calls Try.prog 4 #[.string s] w fun e w' => e = .returned (.bool true) ∧ Below w.heap.size w w' := by
  by_cases h : s.size ≤ 1048576
  · obtain ⟨b, hb⟩ : ∃ b : ByteArray, b = ⟨(Plain.lit s.data.toList).toArray⟩ := ⟨_, rfl⟩
    obtain ⟨inner, hin⟩ : ∃ l, l = Plain.escs s.data.toList := ⟨_, rfl⟩
    have hl := Plain.escs_len s.data.toList
    have e0 : s.data.toList.length = s.size := by simp
    have hd : b.data.toList = 39 :: (inner ++ [39]) := by rw [hb, hin]; rfl
    have e1 : b.size = inner.length + 2 := by rw [hb, lit_size, hin]; simp [Plain.lit]
    have l1 : 2 ≤ b.size := by omega
    have l2 : b.size ≤ 4194304 := by rw [hin] at e1; omega
    have HB : Hid (b = ⟨(Plain.lit s.data.toList).toArray⟩) := hb
    have hsc : Hid (Plain.scan 0 inner = true) := by rw [hin]; exact Plain.scan_escs _ 0 rfl
    obtain ⟨p0, g0, d0⟩ := Plain.at_drop b 0 39 (inner ++ [39]) hd
    have f0 : ((b[0]'p0).toNat : Int) = 39 := by rw [g0]; rfl
    have pl : b.size - 1 < b.size := by omega
    have f1 : ((b[b.size - 1]'pl).toNat : Int) = 39 := by
      have hd : b.data.toList.drop (b.size - 1) = [39] := by
        rw [hd, e1, show inner.length + 2 - 1 = inner.length + 1 from rfl, List.drop_succ_cons, List.drop_left]
      obtain ⟨p1, e1, _⟩ := Plain.at_drop b _ 39 [] hd
      rw [e1]; rfl
    have D0 : Hid (b.data.toList.drop (0 + 1) = inner ++ [39]) := d0
    clear hl e0 e1 hb hin hd g0 d0
    go_enter Try.func4, Try.ntmps4
    go_wp2_with (first | (go_at_call 10; refine (zz10_true s _ h).mono ?_; rintro e w' ⟨rfl, rfl⟩) | (go_at_call 8; refine (zzWrite_any s _ h).mono ?_; rw [← HB.out]; rintro e w1 ⟨rfl, hb1⟩))
    go_loop [5, 6] (fun sr si => ∃ (k r : Nat) (rest : List UInt8), k < b.size ∧ 1 ≤ k ∧ si = .int .i64 k ∧ sr = .int .i64 r ∧ r ≤ k ∧ Hid (b.data.toList.drop k = rest ++ [39]) ∧ Hid (Plain.scan r rest = true))
      (fun _ si => b.size - (intOf si).toNat)
    case atStart => exact ⟨1, 0, inner, by omega, by omega, rfl, rfl, by omega, D0, hsc⟩
    case round =>
      obtain ⟨k, r, rest, hk, hk1, rfl, rfl, hrk, hd, hr⟩ := hrel
      match rest, hd, hr with
      | [], hd, hr =>
        have hend : ¬ (k : Int) < b.size - 1 := by have := Plain.size_drop b k _ (by omega) hd.out; simp at this; omega
        have hr2 : (r : Int) % 2 = 0 := by have := hr.out; simp [Plain.scan] at this; omega
        clear hd hr
        go_wp2
        go_ret
        exact ⟨rfl, hb1⟩
      | c :: t, hd, hr =>
        obtain ⟨pk, ek, dk⟩ := Plain.at_drop b k c (t ++ [39]) (by rw [hd.out, List.cons_append])
        have hss := Plain.size_drop b k _ (by omega) hd.out
        simp only [List.length_append, List.length_cons, List.length_nil] at hss
        have hk2 : (k : Int) < b.size - 1 := by omega
        have DK : Hid (b.data.toList.drop (k + 1) = t ++ [39]) := dk
        rcases scan_cases r c t hr.out with ⟨rfl, hr'⟩ | ⟨h39, hr2, hr', h0, h10, h13, h9, h26⟩
        · have fk : ((b[k]'pk).toNat : Int) = 39 := by rw [ek]; rfl
          have HR' : Hid (Plain.scan (r + 1) t = true) := hr'
          clear hss ek dk hr' hd hr
          go_wp2
          go_round
          case rel => exact ⟨k + 1, r + 1, t, by omega, by omega, by go_num, by go_num, by omega, DK, HR'⟩
          case measure => simp [intOf]; omega
        · have fk : ((b[k]'pk).toNat : Int) = c.toNat := by rw [ek]
          have ne : ∀ k : UInt8, c ≠ k → (c.toNat : Int) ≠ (k.toNat : Int) := fun k h hk => h (UInt8.toNat_inj.1 (by omega))
          have g39 : ((c.toNat : Int) == 39) = false := beq_eq_false_iff_ne.2 (ne 39 h39)
          have g0 : ((c.toNat : Int) == 0) = false := beq_eq_false_iff_ne.2 (ne 0 h0)
          have g10 : ((c.toNat : Int) == 10) = false := beq_eq_false_iff_ne.2 (ne 10 h10)
          have g13 : ((c.toNat : Int) == 13) = false := beq_eq_false_iff_ne.2 (ne 13 h13)
          have g9 : ((c.toNat : Int) == 9) = false := beq_eq_false_iff_ne.2 (ne 9 h9)
          have g26 : ((c.toNat : Int) == 26) = false := beq_eq_false_iff_ne.2 (ne 26 h26)
          have hq : (r : Int) % 2 = 0 := by omega
          have HR' : Hid (Plain.scan 0 t = true) := hr'
          clear hss ek dk hr' hd hr ne h39 h0 h10 h13 h9 h26 hr2
          go_wp2
          go_round
          case rel => exact ⟨k + 1, 0, t, by omega, by omega, by go_num, rfl, by omega, DK, HR'⟩
          case measure => simp [intOf]; omega
  · go_enter Try.func4, Try.ntmps4
    go_wp2_with (go_at_call 10; refine (zz10_false s _ (by omega) hs).mono ?_; rintro e w' ⟨rfl, rfl⟩)
    go_ret
    exact ⟨rfl, Below.refl _ _⟩
end Go.Proofs.Qxb6001552a
