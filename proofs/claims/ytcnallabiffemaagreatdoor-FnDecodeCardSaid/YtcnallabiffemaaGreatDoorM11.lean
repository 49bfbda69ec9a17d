import Derived.Test.YtcnallabiffemaaGreatDoorM06
/- Part of the proof that a Data Matrix symbol of a text, damaged at most to half of its check codewords in each block, is decoded to the text (FnDecode): texts PoE. -/
set_option linter.unusedVariables false
set_option linter.unusedSimpArgs false
namespace Zx
theorem okD_120_120 : okD 120 120 = true := by decide +kernel
theorem okS_120_120 : okS 120 120 = true := by decide +kernel
theorem len_120_120 : (layN 120 120).length = 1800 := by decide +kernel
end Zx
