/-
  THE STAND-IN IndexByteString, called; netip's AddrFrom16 is left for another text.
-/
import Derived.Test.YtfkgkkmcaaefnaaGreatDoorI2
import Derived.Lib.Bytealg
set_option linter.unusedSimpArgs false
set_option linter.unusedVariables false
namespace Go.Proofs.YtfkgkkmcaaefnaaGreatDoor.Wk
open Go.RowKit Go.Proofs.YtfkgkkmcaaefnaaGreatDoor.Pu

theorem call163 (s : ByteArray) (w : World) : (callFunc 163 #[.string s, .int .u8 37]).run Tryz.prog w = .ok (.value (.int .i64 (Lib.indexByte s.data.toList 37))) w := by
  rw [run_callFunc_extern Tryz.func163 (by kernel_rfl) (by kernel_rfl) (by kernel_rfl) (e := Extern.BytealgIndexByte.indexByte) (by kernel_rfl), Lib.run_indexByteString]
  rfl
end Go.Proofs.YtfkgkkmcaaefnaaGreatDoor.Wk
