import Derived.Test.YtcnallabiffemaaGreatDoorM06
/- Part of the proof that a Data Matrix symbol of a text, damaged at most to half of its check codewords in each block, is decoded to the text (FnDecode): texts PoA. -/
set_option linter.unusedVariables false
set_option linter.unusedSimpArgs false
namespace Zx
theorem okD_8_8 : okD 8 8 = true := by decide +kernel
theorem okS_8_8 : okS 8 8 = true := by decide +kernel
theorem len_8_8 : (layN 8 8).length = 8 := by decide +kernel
theorem okD_10_10 : okD 10 10 = true := by decide +kernel
theorem okS_10_10 : okS 10 10 = true := by decide +kernel
theorem len_10_10 : (layN 10 10).length = 12 := by decide +kernel
theorem okD_12_12 : okD 12 12 = true := by decide +kernel
theorem okS_12_12 : okS 12 12 = true := by decide +kernel
theorem len_12_12 : (layN 12 12).length = 18 := by decide +kernel
theorem okD_14_14 : okD 14 14 = true := by decide +kernel
theorem okS_14_14 : okS 14 14 = true := by decide +kernel
theorem len_14_14 : (layN 14 14).length = 24 := by decide +kernel
theorem okD_16_16 : okD 16 16 = true := by decide +kernel
theorem okS_16_16 : okS 16 16 = true := by decide +kernel
theorem len_16_16 : (layN 16 16).length = 32 := by decide +kernel
theorem okD_18_18 : okD 18 18 = true := by decide +kernel
theorem okS_18_18 : okS 18 18 = true := by decide +kernel
theorem len_18_18 : (layN 18 18).length = 40 := by decide +kernel
theorem okD_20_20 : okD 20 20 = true := by decide +kernel
theorem okS_20_20 : okS 20 20 = true := by decide +kernel
theorem len_20_20 : (layN 20 20).length = 50 := by decide +kernel
theorem okD_22_22 : okD 22 22 = true := by decide +kernel
theorem okS_22_22 : okS 22 22 = true := by decide +kernel
theorem len_22_22 : (layN 22 22).length = 60 := by decide +kernel
theorem okD_24_24 : okD 24 24 = true := by decide +kernel
theorem okS_24_24 : okS 24 24 = true := by decide +kernel
theorem len_24_24 : (layN 24 24).length = 72 := by decide +kernel
theorem okD_28_28 : okD 28 28 = true := by decide +kernel
theorem okS_28_28 : okS 28 28 = true := by decide +kernel
theorem len_28_28 : (layN 28 28).length = 98 := by decide +kernel
theorem okD_32_32 : okD 32 32 = true := by decide +kernel
theorem okS_32_32 : okS 32 32 = true := by decide +kernel
theorem len_32_32 : (layN 32 32).length = 128 := by decide +kernel
theorem okD_36_36 : okD 36 36 = true := by decide +kernel
theorem okS_36_36 : okS 36 36 = true := by decide +kernel
theorem len_36_36 : (layN 36 36).length = 162 := by decide +kernel
theorem okD_40_40 : okD 40 40 = true := by decide +kernel
theorem okS_40_40 : okS 40 40 = true := by decide +kernel
theorem len_40_40 : (layN 40 40).length = 200 := by decide +kernel
theorem okD_6_16 : okD 6 16 = true := by decide +kernel
theorem okS_6_16 : okS 6 16 = true := by decide +kernel
theorem len_6_16 : (layN 6 16).length = 12 := by decide +kernel
theorem okD_6_28 : okD 6 28 = true := by decide +kernel
theorem okS_6_28 : okS 6 28 = true := by decide +kernel
theorem len_6_28 : (layN 6 28).length = 21 := by decide +kernel
theorem okD_10_24 : okD 10 24 = true := by decide +kernel
theorem okS_10_24 : okS 10 24 = true := by decide +kernel
theorem len_10_24 : (layN 10 24).length = 30 := by decide +kernel
theorem okD_10_32 : okD 10 32 = true := by decide +kernel
theorem okS_10_32 : okS 10 32 = true := by decide +kernel
theorem len_10_32 : (layN 10 32).length = 40 := by decide +kernel
theorem okD_14_32 : okD 14 32 = true := by decide +kernel
theorem okS_14_32 : okS 14 32 = true := by decide +kernel
theorem len_14_32 : (layN 14 32).length = 56 := by decide +kernel
theorem okD_14_44 : okD 14 44 = true := by decide +kernel
theorem okS_14_44 : okS 14 44 = true := by decide +kernel
theorem len_14_44 : (layN 14 44).length = 77 := by decide +kernel
end Zx
