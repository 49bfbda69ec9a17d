import Derived.Test.YtcnallabiffemaaGreatDoorM06
/- Part of the proof that a Data Matrix symbol of a text, damaged at most to half of its check codewords in each block, is decoded to the text (FnDecode): texts PoC. -/
set_option linter.unusedVariables false
set_option linter.unusedSimpArgs false
namespace Zx
theorem okD_80_80 : okD 80 80 = true := by decide +kernel
theorem okS_80_80 : okS 80 80 = true := by decide +kernel
theorem len_80_80 : (layN 80 80).length = 800 := by decide +kernel
theorem okD_88_88 : okD 88 88 = true := by decide +kernel
theorem okS_88_88 : okS 88 88 = true := by decide +kernel
theorem len_88_88 : (layN 88 88).length = 968 := by decide +kernel
end Zx
