/-
  The shelf's contracts of strings.Builder at this program, laid by hand: the one command stops at copyCheck's, WriteByte's and WriteString's closures, for their structures name two types (string and the empty interface) that no body names here: the loader refuses the panic behind the copy check. So the table of numbers is typed out, those two with it; the kernel compares each body.
-/
import Derived.Shelf.Strings.BuilderK
import Derived.Test.Qxb6001552aProg
namespace Go.Proofs.Qxb6001552a
open Go.Shelf Go.RowKit

def ren : Go.Shelf.Ren := ⟨fun | 166 => 17 | 167 => 16 | 169 => 14 | 240 => 18 | 276 => 19 | n => n, fun | 0 => 0 | 3 => 3 | 4 => 4 | 5 => 5 | 9 => 9 | 20 => 20 | 37 => 26 | 70 => 29 | 72 => 31 | 75 => 35 | 80 => 33 | 127 => 39 | 164 => 40 | n => n, fun | n => n⟩

theorem lays167 : Go.Proofs.Lays.n167 Try.prog ren := {
  mixed := by kernel_rfl
  f167 := Try.func16.trans (congrArg some (by kernel_rfl))
  f240 := Try.func18.trans (congrArg some (by kernel_rfl))
  f276 := Try.func19.trans (congrArg some (by kernel_rfl))
  t0 := Try.underlying0
  a0 := Try.isAgg0
  z0 := Try.sizeOf0
  v0 := Try.zeroValue0
  t4 := Try.underlying4
  a4 := Try.isAgg4
  z4 := Try.sizeOf4
  v4 := Try.zeroValue4
  t5 := Try.underlying5
  a5 := Try.isAgg5
  z5 := Try.sizeOf5
  v5 := Try.zeroValue5
  t9 := Try.underlying9
  a9 := Try.isAgg9
  z9 := Try.sizeOf9
  v9 := Try.zeroValue9
  t20 := Try.underlying20
  a20 := Try.isAgg20
  z20 := Try.sizeOf20
  v20 := Try.zeroValue20
  t37 := Try.underlying26
  a37 := Try.isAgg26
  z37 := Try.sizeOf26
  v37 := Try.zeroValue26
  t70 := Try.underlying29
  a70 := Try.isAgg29
  z70 := Try.sizeOf29
  v70 := Try.zeroValue29
  t72 := Try.underlying31
  a72 := Try.isAgg31
  z72 := Try.sizeOf31
  v72 := Try.zeroValue31
  t75 := Try.underlying35
  a75 := Try.isAgg35
  z75 := Try.sizeOf35
  v75 := Try.zeroValue35
  t164 := Try.underlying40
  a164 := Try.isAgg40
  z164 := Try.sizeOf40
  v164 := Try.zeroValue40 }

theorem lays166 : Go.Proofs.Lays.n166 Try.prog ren := {
  mixed := by kernel_rfl
  f166 := Try.func17.trans (congrArg some (by kernel_rfl))
  f240 := Try.func18.trans (congrArg some (by kernel_rfl))
  f276 := Try.func19.trans (congrArg some (by kernel_rfl))
  t0 := Try.underlying0
  a0 := Try.isAgg0
  z0 := Try.sizeOf0
  v0 := Try.zeroValue0
  t3 := Try.underlying3
  a3 := Try.isAgg3
  z3 := Try.sizeOf3
  v3 := Try.zeroValue3
  t4 := Try.underlying4
  a4 := Try.isAgg4
  z4 := Try.sizeOf4
  v4 := Try.zeroValue4
  t9 := Try.underlying9
  a9 := Try.isAgg9
  z9 := Try.sizeOf9
  v9 := Try.zeroValue9
  t20 := Try.underlying20
  a20 := Try.isAgg20
  z20 := Try.sizeOf20
  v20 := Try.zeroValue20
  t37 := Try.underlying26
  a37 := Try.isAgg26
  z37 := Try.sizeOf26
  v37 := Try.zeroValue26
  t70 := Try.underlying29
  a70 := Try.isAgg29
  z70 := Try.sizeOf29
  v70 := Try.zeroValue29
  t72 := Try.underlying31
  a72 := Try.isAgg31
  z72 := Try.sizeOf31
  v72 := Try.zeroValue31
  t75 := Try.underlying35
  a75 := Try.isAgg35
  z75 := Try.sizeOf35
  v75 := Try.zeroValue35
  t164 := Try.underlying40
  a164 := Try.isAgg40
  z164 := Try.sizeOf40
  v164 := Try.zeroValue40 }

theorem lays169 : Go.Proofs.Lays.n169 Try.prog ren := {
  mixed := by kernel_rfl
  f169 := Try.func14.trans (congrArg some (by kernel_rfl))
  t0 := Try.underlying0
  a0 := Try.isAgg0
  z0 := Try.sizeOf0
  v0 := Try.zeroValue0
  t3 := Try.underlying3
  a3 := Try.isAgg3
  z3 := Try.sizeOf3
  v3 := Try.zeroValue3
  t9 := Try.underlying9
  a9 := Try.isAgg9
  z9 := Try.sizeOf9
  v9 := Try.zeroValue9
  t37 := Try.underlying26
  a37 := Try.isAgg26
  z37 := Try.sizeOf26
  v37 := Try.zeroValue26
  t70 := Try.underlying29
  a70 := Try.isAgg29
  z70 := Try.sizeOf29
  v70 := Try.zeroValue29
  t72 := Try.underlying31
  a72 := Try.isAgg31
  z72 := Try.sizeOf31
  v72 := Try.zeroValue31
  t127 := Try.underlying39
  a127 := Try.isAgg39
  z127 := Try.sizeOf39
  v127 := Try.zeroValue39 }

theorem extra : Builder.Extra Try.prog ren := {
  sizeBuilder := by kernel_rfl
  liesBuilder := by kernel_rfl
  t5 := Try.underlying5
  a5 := Try.isAgg5
  z5 := Try.sizeOf5
  v5 := Try.zeroValue5
  infoByte := by kernel_rfl
  cellsByte := by kernel_rfl
  sizeByte := by kernel_rfl
  neB5 := by decide }

/-- WriteByte: the byte goes in behind. -/
theorem writeByte (B b : Nat) (bs : List Value) (c : Int) (w : World) (h : Lib.IsBuilderF 31 5 B b bs w) (hlen : bs.length + 1 ≤ 140737488355328) (hBw : B ≤ w.heap.size) :
    Calls Try.prog 16 #[.pointer (some ⟨b, 0, none⟩), .int .u8 c] w fun e w' => e = .returned .nilIface ∧ (Lib.BuilderAtF 31 5 B b (.pointer (some ⟨b, 0, none⟩)) (bs ++ [.int .u8 c]) w' ∧ Below B w w' ∧ Lib.OthersKept 5 (some b) w w') :=
  Any.Builder_WriteByte_k lays167 extra B b bs c w h hlen hBw

/-- String: all the bytes. -/
theorem toString_any (B b : Nat) (l : List UInt8) (w : World) (h : Lib.IsBuilderF 31 5 B b (Lib.byteCells l) w) (hBw : B ≤ w.heap.size) :
    Calls Try.prog 14 #[.pointer (some ⟨b, 0, none⟩)] w fun e w' => e = .returned (.string ⟨l.toArray⟩) ∧ (Lib.IsBuilderF 31 5 B b (Lib.byteCells l) w' ∧ Below B w w' ∧ Lib.OthersKept 5 (some b) w w') :=
  Any.Builder_String_any_k lays169 extra B b l w h hBw

end Go.Proofs.Qxb6001552a
