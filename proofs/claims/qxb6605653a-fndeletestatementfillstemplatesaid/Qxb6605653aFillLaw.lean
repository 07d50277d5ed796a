import Derived.Test.Qxb6605653aFill
import Derived.Test.Qxb6605653aDel
namespace Go.Proofs.Qxb6605653a
open Go.RowKit

theorem base_len : (delL [] false).length = 1011 := by decide +kernel
theorem base_cntA : cnt Txt.doomA (delL [] false) = 2 := by decide +kernel
theorem base_cntC : cnt Txt.cutoff (delL [] false) = 2 := by decide +kernel

theorem delL_flat_plain (st : List UInt8) : delL st false = Txt.p1 ++ (Txt.doomA ++ (st ++ (Txt.doomB ++ (Txt.p2 ++ (Txt.doomA ++ (st ++ (Txt.doomB ++ (Txt.p3 ++ (Txt.ltc ++ Txt.p4))))))))) := by
  simp only [delL, doomL_plain, List.append_assoc]
theorem delL_flat_typed (st : List UInt8) : delL st true = Txt.p1 ++ (Txt.doomA ++ (st ++ (Txt.doomB ++ (Txt.typ ++ (Txt.p2 ++ (Txt.doomA ++ (st ++ (Txt.doomB ++ (Txt.typ ++ (Txt.p3 ++ (Txt.ltc ++ Txt.p4))))))))))) := by
  simp only [delL, doomL_typed, List.append_assoc]

theorem fill_plain (st : List UInt8) : fillL st false 1011 (delL [] false) = delL st false := by
  rw [delL_flat_plain st]
  kernel_rfl
theorem fill_typed (st : List UInt8) : fillL st true 1011 (delL [] false) = delL st true := by
  rw [delL_flat_typed st]
  kernel_rfl

end Go.Proofs.Qxb6605653a
