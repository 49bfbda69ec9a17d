import Derived.Test.YtcnallabiffemaaGreatDoorM06
/- Part of the proof that a Data Matrix symbol of a text, damaged at most to half of its check codewords in each block, is decoded to the text (FnDecode): texts PoF. -/
set_option linter.unusedVariables false
set_option linter.unusedSimpArgs false
namespace Zx
/-- the corner is taken, or the two modules beside it belong to no codeword -/
def okT (R C : Int) : Bool := (layN R C).any (fun sh => sh.any (fun p => p == (R - 1, C - 1))) || (layN R C).all (fun sh => sh.all (fun p => !(p == (R - 1, C - 2)) && !(p == (R - 2, C - 1))))
theorem okT_8_8 : okT 8 8 = true := by decide +kernel
theorem okT_10_10 : okT 10 10 = true := by decide +kernel
theorem okT_12_12 : okT 12 12 = true := by decide +kernel
theorem okT_14_14 : okT 14 14 = true := by decide +kernel
theorem okT_16_16 : okT 16 16 = true := by decide +kernel
theorem okT_18_18 : okT 18 18 = true := by decide +kernel
theorem okT_20_20 : okT 20 20 = true := by decide +kernel
theorem okT_22_22 : okT 22 22 = true := by decide +kernel
theorem okT_24_24 : okT 24 24 = true := by decide +kernel
theorem okT_28_28 : okT 28 28 = true := by decide +kernel
theorem okT_32_32 : okT 32 32 = true := by decide +kernel
theorem okT_36_36 : okT 36 36 = true := by decide +kernel
theorem okT_40_40 : okT 40 40 = true := by decide +kernel
theorem okT_44_44 : okT 44 44 = true := by decide +kernel
theorem okT_48_48 : okT 48 48 = true := by decide +kernel
theorem okT_56_56 : okT 56 56 = true := by decide +kernel
theorem okT_64_64 : okT 64 64 = true := by decide +kernel
theorem okT_6_16 : okT 6 16 = true := by decide +kernel
theorem okT_6_28 : okT 6 28 = true := by decide +kernel
theorem okT_10_24 : okT 10 24 = true := by decide +kernel
theorem okT_10_32 : okT 10 32 = true := by decide +kernel
theorem okT_14_32 : okT 14 32 = true := by decide +kernel
theorem okT_14_44 : okT 14 44 = true := by decide +kernel
end Zx
