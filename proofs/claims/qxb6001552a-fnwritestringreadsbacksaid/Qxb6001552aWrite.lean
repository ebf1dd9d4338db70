/-
  The walks of writeString (13) and ZZWriteString (8), over the contracts of strings.Builder.
-/
import Derived.Test.Qxb6001552aSmall
import Derived.Test.Qxb6001552aShelf
namespace Go.Proofs.Qxb6001552a
open Go.RowKit

/-- A builder of this program that holds the bytes l. -/
def Bld (B b : Nat) (l : List UInt8) (w : World) : Prop := Lib.IsBuilderF 31 5 B b (Lib.byteCells l) w

/-- WriteByte, over bytes. -/
theorem addByte (B b : Nat) (l : List UInt8) (c : UInt8) (n : Int) (hn : (c.toNat : Int) = n) (w : World) (h : Bld B b l w) (hlen : l.length ≤ 4194304) (hBw : B ≤ w.heap.size) :
    Calls Try.prog 16 #[.pointer (some ⟨b, 0, none⟩), .int .u8 n] w fun e w' => e = .returned .nilIface ∧ Bld B b (l ++ [c]) w' ∧ Below B w w' := by
  subst hn
  refine (writeByte B b (Lib.byteCells l) c.toNat w h (by rw [Lib.byteCells_length]; omega) hBw).mono ?_
  rintro e w' ⟨rfl, h1, h2, _⟩
  exact ⟨rfl, by unfold Bld; rw [Lib.byteCells_append]; exact Or.inr h1, h2⟩

/-- WriteString, over bytes. -/
theorem addText (B b : Nat) (l : List UInt8) (x y : UInt8) (w : World) (h : Bld B b l w) (hlen : l.length ≤ 4194304) (hBw : B ≤ w.heap.size) :
    Calls Try.prog 17 #[.pointer (some ⟨b, 0, none⟩), .string ⟨#[x, y]⟩] w fun e w' => e = .returned (.tuple #[.int .i64 2, .nilIface]) ∧ Bld B b (l ++ [x, y]) w' ∧ Below B w w' := by
  refine (Any.Builder_WriteString_k lays166 extra B b (Lib.byteCells l) ⟨#[x, y]⟩ w h (by rw [Lib.byteCells_length]; show l.length + 2 ≤ _; omega) hBw).mono ?_
  rintro e w' ⟨rfl, h1, h2, _⟩
  exact ⟨rfl, by unfold Bld; rw [Lib.byteCells_append]; exact Or.inr h1, h2⟩

theorem ne_int {c : UInt8} (k : UInt8) (h : c ≠ k) : ((c.toNat : Int) == (k.toNat : Int)) = false :=
  beq_eq_false_iff_ne.2 fun hk => h (UInt8.toNat_inj.1 (by omega))

set_option maxHeartbeats 2000000 in
theorem writeString_any (B b : Nat) (s : ByteArray) (w : World) (h : Bld B b [] w) (hBw : B ≤ w.heap.size) (hs : s.size ≤ 1048576) :
    Calls Try.prog 13 #[.pointer (some ⟨b, 0, none⟩), .string s] w fun e w' => e = .returned (.tuple #[]) ∧ Bld B b (Plain.lit s.data.toList) w' ∧ Below B w w' := by
  obtain ⟨L, hL⟩ : ∃ L, L = Plain.escs s.data.toList := ⟨_, rfl⟩
  have hlen : L.length ≤ 2097152 := by have := Plain.escs_len s.data.toList; have e0 : s.data.toList.length = s.size := by simp
                                       rw [hL]; omega
  have HL : Hid (L = Plain.escs s.data.toList) := hL
  clear hL
  go_enter Try.func13, Try.ntmps13
  go_wp2_with (go_at_call 16; refine (addByte B b [] 39 39 rfl _ h (by simp) hBw).mono ?_)
  rintro e w0 ⟨rfl, h0, b0⟩
  go_wp2
  go_loopw [4] (fun si wr => ∃ (k : Nat) (acc rest : List UInt8), k ≤ s.size ∧ si = .int .i64 k ∧ Hid (s.data.toList.drop k = rest) ∧ Hid (acc ++ Plain.escs rest = 39 :: L) ∧ Bld B b acc wr ∧ Below B w wr)
    (fun si _ => s.size - (intOf si).toNat)
  case atStart => exact ⟨0, [39], s.data.toList, Nat.zero_le _, rfl, rfl, by rw [HL.out]; rfl, h0, b0⟩
  case round =>
    obtain ⟨k, acc, rest, hk, rfl, hd, ha, hI, hb⟩ := hrel
    have hal : acc.length + (Plain.escs rest).length ≤ 2097153 := by rw [← List.length_append, ha.out, List.length_cons]; omega
    have hsz : B ≤ wr.heap.size := Nat.le_trans hBw hb.size
    have hss := Plain.size_drop s k _ hk hd.out
    cases rest with
    | nil =>
      have hend : ¬ (k : Int) < s.size := by simp at hss; omega
      have hA : acc = 39 :: L := by have := ha.out; simpa [Plain.escs] using this
      have HA : Hid (acc = 39 :: L) := hA
      clear hd ha hss hA
      go_wp2_with (go_at_call 16; refine (addByte B b acc 39 39 rfl _ hI (by omega) hsz).mono ?_; rintro e w1 ⟨rfl, h1, b1⟩)
      go_end0
      exact ⟨rfl, by have h2 := h1; rw [HA.out, HL.out] at h2; exact h2, hb.trans b1⟩
    | cons c t =>
      obtain ⟨pk, ek, dk⟩ := Plain.at_drop s k c t hd.out
      have hin : (k : Int) < s.size := by omega
      have DK : Hid (s.data.toList.drop (k + 1) = t) := dk
      have hA : (acc ++ Plain.esc c t.head?) ++ Plain.escs t = 39 :: L := by have := ha.out; simpa [Plain.escs] using this
      have HA : Hid ((acc ++ Plain.esc c t.head?) ++ Plain.escs t = 39 :: L) := hA
      have hac : acc.length ≤ 4194304 := by omega
      clear hd ha hA hal hss
      by_cases h39 : c = 39
      · subst h39
        have fk : ((s[k]'pk).toNat : Int) = 39 := by rw [ek]; rfl
        clear ek dk
        go_wp2_with (go_at_call 17; refine (addText B b acc 39 39 _ hI hac hsz).mono ?_; rintro e w1 ⟨rfl, h1, b1⟩)
        go_roundw
        case rel => exact ⟨k + 1, acc ++ [39, 39], t, by omega, by go_num, DK, HA, h1, hb.trans b1⟩
        case measure => simp [intOf]; omega
      · by_cases h92 : c = 92
        · subst h92
          have fk : ((s[k]'pk).toNat : Int) = 92 := by rw [ek]; rfl
          clear ek h39
          cases t with
          | nil =>
            have hn : ¬ (k : Int) + 1 < s.size := by have := Plain.size_drop s (k + 1) _ (by omega) dk; simp at this; omega
            clear dk
            go_wp2_with (go_at_call 17; refine (addText B b acc 92 92 _ hI hac hsz).mono ?_; rintro e w1 ⟨rfl, h1, b1⟩)
            go_roundw
            case rel => exact ⟨k + 1, acc ++ [92, 92], _, by omega, by go_num, DK, HA, h1, hb.trans b1⟩
            case measure => simp [intOf]; omega
          | cons d u =>
            obtain ⟨pn, en, _⟩ := Plain.at_drop s (k + 1) d u dk
            have hn : (k : Int) + 1 < s.size := by omega
            clear dk
            by_cases h37 : d = 37
            · subst h37
              have fn : ((s[k + 1]'pn).toNat : Int) = 37 := by rw [en]; rfl
              clear en
              go_wp2_with (go_at_call 16; refine (addByte B b acc 92 92 rfl _ hI hac hsz).mono ?_; rintro e w1 ⟨rfl, h1, b1⟩)
              go_roundw
              case rel => exact ⟨k + 1, acc ++ [92], _, by omega, by go_num, DK, HA, h1, hb.trans b1⟩
              case measure => simp [intOf]; omega
            · by_cases h95 : d = 95
              · subst h95
                have fn : ((s[k + 1]'pn).toNat : Int) = 95 := by rw [en]; rfl
                clear en h37
                go_wp2_with (go_at_call 16; refine (addByte B b acc 92 92 rfl _ hI hac hsz).mono ?_; rintro e w1 ⟨rfl, h1, b1⟩)
                go_roundw
                case rel => exact ⟨k + 1, acc ++ [92], _, by omega, by go_num, DK, HA, h1, hb.trans b1⟩
                case measure => simp [intOf]; omega
              · have fn : ((s[k + 1]'pn).toNat : Int) = d.toNat := by rw [en]
                have g37 : ((d.toNat : Int) == 37) = false := ne_int 37 h37
                have g95 : ((d.toNat : Int) == 95) = false := ne_int 95 h95
                have HE : Hid (Plain.esc 92 (d :: u).head? = [92, 92]) := by show _ = _; simp [Plain.esc, h37, h95]
                rw [HE.out] at HA
                clear en h37 h95
                go_wp2_with (go_at_call 17; refine (addText B b acc 92 92 _ hI hac hsz).mono ?_; rintro e w1 ⟨rfl, h1, b1⟩)
                go_roundw
                case rel => exact ⟨k + 1, acc ++ [92, 92], _, by omega, by go_num, DK, HA, h1, hb.trans b1⟩
                case measure => simp [intOf]; omega
        · have g39 : ((c.toNat : Int) == 39) = false := ne_int 39 h39
          have g92 : ((c.toNat : Int) == 92) = false := ne_int 92 h92
          by_cases h0 : c = 0
          · subst h0
            have fk : ((s[k]'pk).toNat : Int) = 0 := by rw [ek]; rfl
            clear ek dk g39 g92
            go_wp2_with (go_at_call 17; refine (addText B b acc 92 48 _ hI hac hsz).mono ?_; rintro e w1 ⟨rfl, h1, b1⟩)
            go_roundw
            case rel => exact ⟨k + 1, acc ++ [92, 48], t, by omega, by go_num, DK, HA, h1, hb.trans b1⟩
            case measure => simp [intOf]; omega
          by_cases h10 : c = 10
          · subst h10
            have fk : ((s[k]'pk).toNat : Int) = 10 := by rw [ek]; rfl
            clear ek dk g39 g92
            go_wp2_with (go_at_call 17; refine (addText B b acc 92 110 _ hI hac hsz).mono ?_; rintro e w1 ⟨rfl, h1, b1⟩)
            go_roundw
            case rel => exact ⟨k + 1, acc ++ [92, 110], t, by omega, by go_num, DK, HA, h1, hb.trans b1⟩
            case measure => simp [intOf]; omega
          by_cases h13 : c = 13
          · subst h13
            have fk : ((s[k]'pk).toNat : Int) = 13 := by rw [ek]; rfl
            clear ek dk g39 g92
            go_wp2_with (go_at_call 17; refine (addText B b acc 92 114 _ hI hac hsz).mono ?_; rintro e w1 ⟨rfl, h1, b1⟩)
            go_roundw
            case rel => exact ⟨k + 1, acc ++ [92, 114], t, by omega, by go_num, DK, HA, h1, hb.trans b1⟩
            case measure => simp [intOf]; omega
          by_cases h9 : c = 9
          · subst h9
            have fk : ((s[k]'pk).toNat : Int) = 9 := by rw [ek]; rfl
            clear ek dk g39 g92
            go_wp2_with (go_at_call 17; refine (addText B b acc 92 116 _ hI hac hsz).mono ?_; rintro e w1 ⟨rfl, h1, b1⟩)
            go_roundw
            case rel => exact ⟨k + 1, acc ++ [92, 116], t, by omega, by go_num, DK, HA, h1, hb.trans b1⟩
            case measure => simp [intOf]; omega
          by_cases h26 : c = 26
          · subst h26
            have fk : ((s[k]'pk).toNat : Int) = 26 := by rw [ek]; rfl
            clear ek dk g39 g92
            go_wp2_with (go_at_call 17; refine (addText B b acc 92 90 _ hI hac hsz).mono ?_; rintro e w1 ⟨rfl, h1, b1⟩)
            go_roundw
            case rel => exact ⟨k + 1, acc ++ [92, 90], t, by omega, by go_num, DK, HA, h1, hb.trans b1⟩
            case measure => simp [intOf]; omega
          have fk : ((s[k]'pk).toNat : Int) = c.toNat := by rw [ek]
          have g0 : ((c.toNat : Int) == 0) = false := ne_int 0 h0
          have g10 : ((c.toNat : Int) == 10) = false := ne_int 10 h10
          have g13 : ((c.toNat : Int) == 13) = false := ne_int 13 h13
          have g9 : ((c.toNat : Int) == 9) = false := ne_int 9 h9
          have g26 : ((c.toNat : Int) == 26) = false := ne_int 26 h26
          have he : Plain.esc c t.head? = [c] := by simp [Plain.esc, *]
          rw [he] at HA
          clear ek dk he h39 h92 h0 h10 h13 h9 h26
          go_wp2_with (go_at_call 16; refine (addByte B b acc c _ rfl _ hI hac hsz).mono ?_; rintro e w1 ⟨rfl, h1, b1⟩)
          go_roundw
          case rel => exact ⟨k + 1, acc ++ [c], t, by omega, by go_num, DK, HA, h1, hb.trans b1⟩
          case measure => simp [intOf]; omega

set_option maxHeartbeats 400000 in
/-- ZZWriteString: the whole literal. -/
theorem zzWrite_any (s : ByteArray) (w : World) (hs : s.size ≤ 1048576) :
    Calls Try.prog 8 #[.string s] w fun e w' => e = .returned (.string ⟨(Plain.lit s.data.toList).toArray⟩) ∧ Below w.heap.size w w' := by
  have h0 : Bld w.heap.size w.heap.size [] (w.alloc (.cells #[.pointer none, .slice none 0 0] 31)) := Lib.IsBuilderF.of (Lib.fresh_isBuilder 31 5 w)
  have b0 : Below w.heap.size w (w.alloc (.cells #[.pointer none, .slice none 0 0] 31)) := (Below.refl _ w).alloc (Nat.le_refl _) _
  go_enter Try.func8, Try.ntmps8
  go_wp2_with (go_at_call 13; refine (writeString_any w.heap.size w.heap.size s _ h0 b0.size hs).mono ?_; rintro e w1 ⟨rfl, h1, b1⟩)
  go_wp2_with (go_at_call 14; refine (toString_any w.heap.size w.heap.size _ _ h1 (Nat.le_trans b0.size b1.size)).mono ?_; rintro e w2 ⟨rfl, _, b2, _⟩)
  go_ret
  exact ⟨rfl, (b0.trans b1).trans b2⟩

end Go.Proofs.Qxb6001552a
