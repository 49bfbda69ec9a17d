import Derived.Test.YtcnallabiffemaaGreatDoorM06
/- Part of the proof that a Data Matrix symbol of a text, damaged at most to half of its check codewords in each block, is decoded to the text (FnDecode): texts PoB. -/
set_option linter.unusedVariables false
set_option linter.unusedSimpArgs false
namespace Zx
theorem okD_44_44 : okD 44 44 = true := by decide +kernel
theorem okS_44_44 : okS 44 44 = true := by decide +kernel
theorem len_44_44 : (layN 44 44).length = 242 := by decide +kernel
theorem okD_48_48 : okD 48 48 = true := by decide +kernel
theorem okS_48_48 : okS 48 48 = true := by decide +kernel
theorem len_48_48 : (layN 48 48).length = 288 := by decide +kernel
theorem okD_56_56 : okD 56 56 = true := by decide +kernel
theorem okS_56_56 : okS 56 56 = true := by decide +kernel
theorem len_56_56 : (layN 56 56).length = 392 := by decide +kernel
theorem okD_64_64 : okD 64 64 = true := by decide +kernel
theorem okS_64_64 : okS 64 64 = true := by decide +kernel
theorem len_64_64 : (layN 64 64).length = 512 := by decide +kernel
theorem okD_72_72 : okD 72 72 = true := by decide +kernel
theorem okS_72_72 : okS 72 72 = true := by decide +kernel
theorem len_72_72 : (layN 72 72).length = 648 := by decide +kernel
end Zx
