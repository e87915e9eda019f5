/- Seat b6603149a: the library's contracts that the walks use, by short names. -/
import Derived.Test.Qxb6603149aShelf
import Derived.Test.Qxb6603149aPlain
namespace Go.Proofs.Qxb6603149a

theorem hasPrefix22 (s p : ByteArray) (w : World) :
    Calls Try.prog 22 #[.string s, .string p] w fun e w' => e = .returned (.bool (Lib.hasPrefix s.data.toList p.data.toList)) ∧ w' = w := Try.strings_HasPrefix s p w

theorem indexByte23 (s : ByteArray) (c : Int) (w : World) :
    Calls Try.prog 23 #[.string s, .int .u8 c] w fun e w' => e = .returned (.int .i64 (Lib.indexByte s.data.toList c.toNat.toUInt8)) ∧ w' = w := Try.strings_IndexByte s c w

theorem index24 (s sub : ByteArray) (m : Int) (w : World) (hs : s.size < 4294967281) (hm : w.cell? ⟨0, 0, none⟩ = some (.int .i64 m)) :
    Calls Try.prog 24 #[.string s, .string sub] w fun e w' => e = .returned (.int .i64 (Lib.index s.data.toList sub.data.toList)) ∧ w' = w := Try.strings_Index s sub m w hs hm

/-- The library's variable holds some number. -/
theorem maxLen_cell (w : World) (h : w.ShapedOpen Try.prog) : ∃ m, w.cell? ⟨0, 0, none⟩ = some (.int .i64 m) := Try.laysM143.s1_3 w h

end Go.Proofs.Qxb6603149a
