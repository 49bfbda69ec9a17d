import Derived.Test.YtcnallabiffemaaGreatDoorM32
/- Part of the proof that a Data Matrix symbol of a text, damaged at most to half of its check codewords in each block, is decoded to the text (FnDecode): texts PoG. -/
set_option linter.unusedVariables false
set_option linter.unusedSimpArgs false
namespace Zx
theorem okT_72_72 : okT 72 72 = true := by decide +kernel
theorem okT_80_80 : okT 80 80 = true := by decide +kernel
theorem okT_88_88 : okT 88 88 = true := by decide +kernel
theorem okT_96_96 : okT 96 96 = true := by decide +kernel
end Zx
