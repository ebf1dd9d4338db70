/-
  The walk of readLiteral (9), at a literal that the plain reader reads.
-/
import Derived.Test.Qxb6001552aSmall
import Derived.Lib.BufSteps
namespace Go.Proofs.Qxb6001552a
open Go.RowKit

theorem Try.info5 : (Try.prog.info? 5).map (fun i => (i.zero, i.size, i.bytes)) = some (some (.int .u8 0), 1, 1) := by kernel_rfl

/-- 'string(out)' of a buffer that the call owns. -/
theorem conv_own {B : Nat} {v : Value} {acc : List UInt8} {W w : World} (h : Lib.OwnBuf B 5 v acc.length (Lib.byteCells acc) W w) : (convert 26 9 v).run Try.prog w = .ok (.string ⟨acc.toArray⟩) w := by
  have h1 := h.1
  rcases h1.2 with ⟨rfl, h0⟩ | ⟨g, cap, cur, fz, rfl, rest⟩
  · obtain rfl : acc = [] := List.eq_nil_of_length_eq_zero h0
    rw [run_convert_bytes_string w 26 9 5 none 0 0 Try.underlying26 Try.underlying5 Try.underlying9]
    simp [Conv.bytesToString]
    rfl
  · refine run_convert_bytes_back (P := Try.prog) w 26 9 5 ⟨g, 0, none⟩ cap acc Try.underlying26 Try.underlying5 Try.underlying9 ?_
    intro j hj
    exact h1.cells (g := g) rfl j _ (by simp [Lib.byteCells, hj])

/-- Behind a call that only makes memory a buffer of one's own is as it was. -/
theorem own_below {B : Nat} {v : Value} {n : Nat} {xs : List Value} {W w w' : World} (h : Lib.OwnBuf B 5 v n xs W w) (hb : Below w.heap.size w w') : Lib.OwnBuf B 5 v n xs W w' := by
  have hg : w.grownBy w' none := ⟨hb.os, hb.tape, hb.output, hb.size, fun k hk _ => hb.block k hk⟩
  refine ⟨h.1.kept hg ?_, h.2.1.trans (hb.mono h.2.2), Nat.le_trans h.2.2 hb.size⟩
  cases hv : v.ownBlock with
  | none => exact .inl rfl
  | some g => exact .inr (by simp)

set_option maxHeartbeats 1000000 in
theorem readLiteral_any (s : ByteArray) (inner l : List UInt8) (w : World) (hs : s.data.toList = 39 :: (inner ++ [39])) (hrd : Plain.rd inner = some l) (hl : l.length ≤ 4194304) (hz : s.size ≤ 4194304) :
    Calls Try.prog 9 #[.string s] w fun e w' => e = .returned (.tuple #[.string ⟨l.toArray⟩, .bool true]) ∧ Below w.heap.size w w' := by
  obtain ⟨i0, hi, hz0, hz1, hz2⟩ := info_parts Try.info5
  obtain ⟨p0, e0, d0⟩ := Plain.at_drop s 0 39 (inner ++ [39]) hs
  have h2 : 2 ≤ s.size := by have := Plain.size_drop s 0 _ (Nat.zero_le _) hs; simp at this; omega
  have f0 : ((s[0]'p0).toNat : Int) = 39 := by rw [e0]; rfl
  have f1 : ((s[s.size - 1]'(by omega)).toNat : Int) = 39 := by
    have hsz : s.size = inner.length + 2 := by have := Plain.size_drop s 0 _ (Nat.zero_le _) hs; simp at this; omega
    have hd : s.data.toList.drop (s.size - 1) = [39] := by
      rw [hs, hsz, show inner.length + 2 - 1 = inner.length + 1 from rfl, List.drop_succ_cons, List.drop_left]
    obtain ⟨p1, e1, _⟩ := Plain.at_drop s _ 39 [] hd
    rw [e1]; rfl
  have HS : Hid (s.data.toList = 39 :: (inner ++ [39])) := hs
  have HR : Hid (Plain.rd inner = some l) := hrd
  have D0 : Hid (s.data.toList.drop (0 + 1) = inner ++ [39]) := d0
  clear hs hrd e0 d0
  go_enter Try.func9, Try.ntmps9
  go_wp2_with (at_make; refine wpList_make_own _ rfl _ _ 26 rfl w.heap.size 5 i0 (.int .u8 0) 1 Try.underlying26 hi hz0 hz1 _ _ _ s.size rfl rfl (by omega) ?b2 ?b3 (Nat.le_refl _) ?_)
  case b2 => rw [hz2]; omega
  case b3 => unfold maxLen; omega
  intro w0 hown0 hgrow0
  have hb0 : Lib.OwnBuf w.heap.size 5 (.slice (some ⟨w.heap.size, 0, none⟩) 0 s.size) 0 [] w w0 :=
    ⟨World.ownsRowF_of hown0, (Below.refl _ _).grown hgrow0 (Nat.le_refl _) (fun k h => by cases h), hgrow0.size⟩
  clear hown0 hgrow0
  go_wp2
  go_loopw [5, 6] (fun out si wr => ∃ (k : Nat) (acc rest m : List UInt8), k < s.size ∧ 1 ≤ k ∧ si = .int .i64 k ∧ Hid (s.data.toList.drop k = rest ++ [39]) ∧ Hid (Plain.rd rest = some m) ∧ Hid (acc ++ m = l) ∧
      Lib.OwnBuf w.heap.size 5 out acc.length (Lib.byteCells acc) w wr)
    (fun _ si _ => s.size - (intOf si).toNat)
  case atStart => exact ⟨1, [], inner, l, by omega, by omega, rfl, D0, HR, rfl, hb0⟩
  case round =>
    obtain ⟨k, acc, rest, m, hk, hk1, rfl, hd, hr, ha, hb⟩ := hrel
    have hal : acc.length + m.length ≤ 4194304 := by rw [← List.length_append, ha.out]; exact hl
    match rest, hd, hr with
    | [], hd, hr =>
      have hend : ¬ (k : Int) < s.size - 1 := by have := Plain.size_drop s k _ (by omega) hd.out; simp at this; omega
      have hcv := conv_own hb
      have hla : l = acc := by have h1 := hr.out; have h2 := ha.out; simp [Plain.rd] at h1; subst h1; simpa using h2.symm
      have HL : Hid (l = acc) := hla
      have hbw := hb.2.1
      clear hla hd hr ha hb
      go_wp2
      go_ret2
      exact ⟨by rw [HL.out]; rfl, hbw⟩
    | c :: t, hd, hr =>
      obtain ⟨pk, ek, dk⟩ := Plain.at_drop s k c (t ++ [39]) (by rw [hd.out, List.cons_append])
      have hss := Plain.size_drop s k _ (by omega) hd.out
      simp only [List.length_append, List.length_cons, List.length_nil] at hss
      rcases Plain.rd_cases c t m hr.out with ⟨rfl, u, m', rfl, hr', rfl⟩ | ⟨rfl, d, u, m', rfl, hr', rfl⟩ | ⟨h39, h92, m', hr', rfl⟩
      · obtain ⟨pk1, ek1, dk1⟩ := Plain.at_drop s (k + 1) 39 (u ++ [39]) (by rw [dk, List.cons_append])
        have fk : ((s[k]'pk).toNat : Int) = 39 := by rw [ek]; rfl
        have fk1 : ((s[k + 1]'pk1).toNat : Int) = 39 := by rw [ek1]; rfl
        have hk2 : (k : Int) + 1 < s.size - 1 := by simp at hss; omega
        have DK : Hid (s.data.toList.drop (k + 1 + 1) = u ++ [39]) := dk1
        have HR' : Hid (Plain.rd u = some m') := hr'
        clear hss ek ek1 dk dk1 hr' hd hr
        simp only [List.length_cons] at hal
        go_wp2_with (at_builtin; refine Lib.wpList_append_byte rfl (.tmp 47) (.tmp 48) 26 rfl w.heap.size 5 i0 Try.underlying26 hi hz0 hz1 hz2 _ _ _ rfl w wr 39 hb rfl (by omega) ?_)
        intro v' w' hb'
        go_wp2
        go_roundw
        case rel => exact ⟨k + 2, acc ++ [39], u, m', by omega, by omega, by go_num, DK, HR', by have h := ha.out; show _ = _; simpa using h, by rw [Lib.byteCells_append, List.length_append]; exact hb'⟩
        case measure => simp [intOf]; omega
      · obtain ⟨pk1, ek1, dk1⟩ := Plain.at_drop s (k + 1) d (u ++ [39]) (by rw [dk, List.cons_append])
        have fk : ((s[k]'pk).toNat : Int) = 92 := by rw [ek]; rfl
        have fk1 : ((s[k + 1]'pk1).toNat : Int) = d.toNat := by rw [ek1]
        have hk2 : (k : Int) + 1 < s.size - 1 := by simp at hss; omega
        have hul := Plain.unesc_len d
        have DK : Hid (s.data.toList.drop (k + 1 + 1) = u ++ [39]) := dk1
        have HR' : Hid (Plain.rd u = some m') := hr'
        clear hss ek ek1 dk dk1 hr' hd hr
        simp only [List.length_append] at hal
        go_wp2_with (go_at_call 12; refine (zzUnescape_any d _).mono ?_)
        rintro e w1 ⟨rfl, hb1⟩
        have hb2 := own_below hb hb1
        go_wp2_with (at_builtin; refine Lib.wpList_append_text rfl (.tmp 59) (.tmp 64) 26 9 rfl w.heap.size 5 i0 Try.underlying26 Try.underlying9 hi hz0 hz1 hz2 _ _ _ rfl w hb2 ⟨(Plain.unesc d).toArray⟩ rfl (by show _ + (Plain.unesc d).toArray.size ≤ _; simp only [List.size_toArray]; omega) ?_)
        intro v' w' hb'
        go_wp2
        go_roundw
        case rel => exact ⟨k + 2, acc ++ Plain.unesc d, u, m', by omega, by omega, by go_num, DK, HR', by have h := ha.out; show _ = _; simpa using h, by rw [Lib.byteCells_append, List.length_append]; exact hb'⟩
        case measure => simp [intOf]; omega
      · have fk : ((s[k]'pk).toNat : Int) = c.toNat := by rw [ek]
        have ne : ∀ k : UInt8, c ≠ k → (c.toNat : Int) ≠ (k.toNat : Int) := fun k h hk => h (UInt8.toNat_inj.1 (by omega))
        have g39 : (c.toNat : Int) ≠ 39 := ne 39 h39
        have g92 : (c.toNat : Int) ≠ 92 := ne 92 h92
        have hk2 : (k : Int) < s.size - 1 := by omega
        have DK : Hid (s.data.toList.drop (k + 1) = t ++ [39]) := dk
        have HR' : Hid (Plain.rd t = some m') := hr'
        clear hss ek dk hr' hd hr ne h39 h92
        simp only [List.length_cons] at hal
        go_wp2_with (at_builtin; refine Lib.wpList_append_byte rfl (.tmp 68) (.tmp 70) 26 rfl w.heap.size 5 i0 Try.underlying26 hi hz0 hz1 hz2 _ _ _ rfl w wr c.toNat hb rfl (by omega) ?_)
        intro v' w' hb'
        go_wp2
        go_roundw
        case rel => exact ⟨k + 1, acc ++ [c], t, m', by omega, by omega, by go_num, DK, HR', by have h := ha.out; show _ = _; simpa using h, by rw [Lib.byteCells_append, List.length_append]; exact hb'⟩
        case measure => simp [intOf]; omega
end Go.Proofs.Qxb6001552a
