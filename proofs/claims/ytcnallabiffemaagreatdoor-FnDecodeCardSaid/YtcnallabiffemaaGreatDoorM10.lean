import Derived.Test.YtcnallabiffemaaGreatDoorM06
/- Part of the proof that a Data Matrix symbol of a text, damaged at most to half of its check codewords in each block, is decoded to the text (FnDecode): texts PoD. -/
set_option linter.unusedVariables false
set_option linter.unusedSimpArgs false
namespace Zx
theorem okD_96_96 : okD 96 96 = true := by decide +kernel
theorem okS_96_96 : okS 96 96 = true := by decide +kernel
theorem len_96_96 : (layN 96 96).length = 1152 := by decide +kernel
theorem okD_108_108 : okD 108 108 = true := by decide +kernel
theorem okS_108_108 : okS 108 108 = true := by decide +kernel
theorem len_108_108 : (layN 108 108).length = 1458 := by decide +kernel
end Zx
