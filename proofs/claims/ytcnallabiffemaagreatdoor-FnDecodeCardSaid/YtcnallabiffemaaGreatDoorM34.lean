import Derived.Test.YtcnallabiffemaaGreatDoorM32
/- Part of the proof that a Data Matrix symbol of a text, damaged at most to half of its check codewords in each block, is decoded to the text (FnDecode): texts PoH. -/
set_option linter.unusedVariables false
set_option linter.unusedSimpArgs false
namespace Zx
theorem okT_108_108 : okT 108 108 = true := by decide +kernel
theorem okT_120_120 : okT 120 120 = true := by decide +kernel
end Zx
