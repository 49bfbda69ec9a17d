import Derived.Deep.LoopGhost
import Derived.Handy
import Derived.IntWalk
import Derived.Laws.OwnMore
import Derived.Laws.Bits128
import Derived.Test.YtcnallabiffemaaGreatDoorM02
import Derived.Test.YtcnallabiffemaaGreatDoorM03
import Derived.Test.YtcnallabiffemaaGreatDoorM06
import Derived.Test.YtcnallabiffemaaGreatDoorM07
import Derived.Test.YtcnallabiffemaaGreatDoorM08
import Derived.Test.YtcnallabiffemaaGreatDoorM09
import Derived.Test.YtcnallabiffemaaGreatDoorM10
import Derived.Test.YtcnallabiffemaaGreatDoorM11
/- Part of the proof that a Data Matrix symbol of a text, damaged at most to half of its check codewords in each block, is decoded to the text (FnDecode): texts La Sz W1 V8 C1 C2 X1. -/
set_option linter.unusedVariables false
set_option linter.unusedSimpArgs false
namespace Zx

/-! numbers of bits, laid at the places of shapes -/
theorem tb_or_pow (V a b : Nat) : (V ||| 2 ^ a).testBit b = (V.testBit b || decide (b = a)) := by
  rw [Nat.testBit_or, Nat.testBit_two_pow]
  congr 1
  by_cases h1 : a = b
  · subst h1; simp
  · rw [decide_eq_false h1, decide_eq_false (fun h => h1 h.symm)]

def put1 (C : Int) (g : Nat → Int) (p : Pl) (v : Int) : Nat → Int := fun i => if i = ix C p then v else g i
def putB (C : Int) (g : Nat → Int) : List Pl → Int → (Nat → Int)
  | [], _ => g
  | p :: s, v => putB C (put1 C g p v) s (v + 1)

/-- where something stands -/
def Stood (g : Nat → Int) (V : Nat) : Prop := ∀ i, V.testBit i = true ↔ 0 ≤ g i

theorem putB_spec {R C : Int} (s : List Pl) (V V' : Nat) (g : Nat → Int) (v : Int) (h : take8 R C s V = some V') (hs : Stood g V) (hv : 0 ≤ v) :
    Stood (putB C g s v) V' ∧ (∀ i, V.testBit i = true → V'.testBit i = true ∧ putB C g s v i = g i) ∧ (∀ (j : Nat) (p : Pl), s[j]? = some p → putB C g s v (ix C p) = v + j ∧ inR R C p = true) ∧
      (∀ i, putB C g s v i = g i ∨ (v ≤ putB C g s v i ∧ putB C g s v i < v + s.length)) := by
  induction s generalizing V g v with
  | nil =>
    have e : V = V' := by unfold take8 at h; exact Option.some.inj h
    subst e
    exact ⟨hs, fun i hi => ⟨hi, rfl⟩, fun j p hp => by simp at hp, fun i => .inl rfl⟩
  | cons p s ih =>
    unfold take8 at h
    split at h
    · rename_i h1
      obtain ⟨h1, h2⟩ := Bool.and_eq_true _ _ ▸ h1
      have h2' : V.testBit (ix C p) = false := by simpa using h2
      have hs1 : Stood (put1 C g p v) (V ||| 2 ^ ix C p) := by
        intro i
        rw [tb_or_pow]
        unfold put1
        by_cases hi : i = ix C p
        · rw [if_pos hi, decide_eq_true hi, Bool.or_true]; exact ⟨fun _ => hv, fun _ => rfl⟩
        · rw [if_neg hi, decide_eq_false hi, Bool.or_false]; exact hs i
      obtain ⟨a1, a2, a3, a4⟩ := ih _ (put1 C g p v) (v + 1) h hs1 (by omega)
      refine ⟨a1, fun i hi => ?_, fun j q hq => ?_, fun i => ?_⟩
      · have hne : i ≠ ix C p := by rintro rfl; rw [hi] at h2'; cases h2'
        have h3 := a2 i (by rw [tb_or_pow, hi]; rfl)
        refine ⟨h3.1, ?_⟩
        show putB C (put1 C g p v) s (v + 1) i = g i
        rw [h3.2]; unfold put1; rw [if_neg hne]
      · cases j with
        | zero =>
          simp only [List.getElem?_cons_zero, Option.some.injEq] at hq
          subst hq
          have h3 := a2 (ix C p) (by rw [tb_or_pow]; simp)
          refine ⟨?_, h1⟩
          show putB C (put1 C g p v) s (v + 1) (ix C p) = v + ((0 : Nat) : Int)
          rw [h3.2]; unfold put1; rw [if_pos rfl]; omega
        | succ j =>
          simp only [List.getElem?_cons_succ] at hq
          have h3 := a3 j q hq
          refine ⟨?_, h3.2⟩
          show putB C (put1 C g p v) s (v + 1) (ix C q) = v + ((j + 1 : Nat) : Int)
          rw [h3.1]; omega
      · show putB C (put1 C g p v) s (v + 1) i = g i ∨ (v ≤ putB C (put1 C g p v) s (v + 1) i ∧ putB C (put1 C g p v) s (v + 1) i < v + ((s.length + 1 : Nat) : Int))
        rcases a4 i with h3 | h3
        · rw [h3]; unfold put1
          by_cases hi : i = ix C p
          · rw [if_pos hi]; right; omega
          · rw [if_neg hi]; exact .inl rfl
        · right; omega
    · cases h

/-- what is laid by some shapes in turn -/
structure Laid (R C : Int) (g : Nat → Int) (V : Nat) (done : List Shp) : Prop where
  st : Stood g V
  at_ : ∀ (k j : Nat) (sh : Shp) (p : Pl), done[k]? = some sh → sh[j]? = some p → g (ix C p) = 8 * k + j ∧ V.testBit (ix C p) = true ∧ inR R C p = true
  bd : ∀ i, -1 ≤ g i ∧ g i < 8 * done.length
  len : ∀ sh ∈ done, sh.length = 8

theorem Laid.start (R C : Int) : Laid R C (fun _ => -1) 0 [] :=
  ⟨fun i => by rw [Nat.zero_testBit]; exact ⟨fun h => (by cases h), fun h => absurd h (by decide)⟩, fun k j sh p h _ => by simp at h, fun i => ⟨Int.le_refl _, by simp⟩, fun sh h => by simp at h⟩

theorem Laid.next {R C : Int} {g : Nat → Int} {V V' : Nat} {done : List Shp} (h : Laid R C g V done) {sh : Shp} (hsh : sh.length = 8) (ht : take8 R C sh V = some V') :
    Laid R C (putB C g sh (8 * done.length)) V' (done ++ [sh]) := by
  obtain ⟨a1, a2, a3, a4⟩ := putB_spec sh V V' g (8 * done.length) ht h.st (by omega)
  refine ⟨a1, fun k j sh' p hk hj => ?_, fun i => ?_, fun s hs => ?_⟩
  · rw [List.getElem?_append] at hk
    split at hk
    · have h1 := h.at_ k j sh' p hk hj
      have h2 := a2 _ h1.2.1
      exact ⟨by rw [h2.2]; exact h1.1, h2.1, h1.2.2⟩
    · rename_i hlt
      have hk' : k = done.length ∧ sh' = sh := by
        rcases Nat.lt_or_ge (k - done.length) 1 with h3 | h3
        · have : k - done.length = 0 := by omega
          rw [this] at hk
          simp at hk
          exact ⟨by omega, hk.symm⟩
        · rw [List.getElem?_eq_none (by simpa using h3)] at hk; cases hk
      obtain ⟨rfl, rfl⟩ := hk'
      have h3 := a3 j p hj
      exact ⟨h3.1, (a1 _).2 (by rw [h3.1]; omega), h3.2⟩
  · have := h.bd i
    rw [List.length_append, List.length_singleton]
    rcases a4 i with h3 | h3
    · rw [h3]; omega
    · rw [hsh] at h3; omega
  · rcases List.mem_append.1 hs with h3 | h3
    · exact h.len s h3
    · simp at h3; rw [h3]; exact hsh

theorem corn_len (R C row col : Int) : (corn1 R C).length = 8 ∧ (corn2 R C).length = 8 ∧ (corn3 R C).length = 8 ∧ (corn4 R C).length = 8 ∧ (utahS R C row col).length = 8 := ⟨rfl, rfl, rfl, rfl, rfl⟩

/-- eight bits, the highest one first -/
theorem bits8 : ∀ w, w < 256 → [0, 1, 2, 3, 4, 5, 6, 7].foldl (fun a j => 2 * a + (w.testBit (7 - j)).toNat) 0 = w := by decide +kernel

/-- a codeword is read back at its shape -/
theorem fold_bits (f : Pl → Bool) (sh : Shp) (w : Nat) (hl : sh.length = 8) (hw : w < 256) (hf : ∀ (j : Nat) (p : Pl), sh[j]? = some p → f p = w.testBit (7 - j)) :
    sh.foldl (fun a p => 2 * a + (f p).toNat) 0 = w := by
  match sh, hl with
  | [p0, p1, p2, p3, p4, p5, p6, p7], _ =>
    have h := bits8 w hw
    simp only [List.foldl] at h ⊢
    rw [hf 0 p0 rfl, hf 1 p1 rfl, hf 2 p2 rfl, hf 3 p3 rfl, hf 4 p4 rfl, hf 5 p5 rfl, hf 6 p6 rfl, hf 7 p7 rfl]
    exact h
end Zx
namespace Zx

/-- a size of symbols -/
structure Sym where
  (rows cols down across data check blocks : Nat)

def syms : List Sym := [
  ⟨10, 10, 1, 1, 3, 5, 1⟩, ⟨12, 12, 1, 1, 5, 7, 1⟩, ⟨14, 14, 1, 1, 8, 10, 1⟩, ⟨16, 16, 1, 1, 12, 12, 1⟩, ⟨18, 18, 1, 1, 18, 14, 1⟩, ⟨20, 20, 1, 1, 22, 18, 1⟩, ⟨22, 22, 1, 1, 30, 20, 1⟩, ⟨24, 24, 1, 1, 36, 24, 1⟩, ⟨26, 26, 1, 1, 44, 28, 1⟩,
  ⟨32, 32, 2, 2, 62, 36, 1⟩, ⟨36, 36, 2, 2, 86, 42, 1⟩, ⟨40, 40, 2, 2, 114, 48, 1⟩, ⟨44, 44, 2, 2, 144, 56, 1⟩, ⟨48, 48, 2, 2, 174, 68, 1⟩, ⟨52, 52, 2, 2, 204, 84, 2⟩,
  ⟨64, 64, 4, 4, 280, 112, 2⟩, ⟨72, 72, 4, 4, 368, 144, 4⟩, ⟨80, 80, 4, 4, 456, 192, 4⟩, ⟨88, 88, 4, 4, 576, 224, 4⟩, ⟨96, 96, 4, 4, 696, 272, 4⟩, ⟨104, 104, 4, 4, 816, 336, 6⟩,
  ⟨120, 120, 6, 6, 1050, 408, 6⟩, ⟨132, 132, 6, 6, 1304, 496, 8⟩,
  ⟨8, 18, 1, 1, 5, 7, 1⟩, ⟨8, 32, 1, 2, 10, 11, 1⟩, ⟨12, 26, 1, 1, 16, 14, 1⟩, ⟨12, 36, 1, 2, 22, 18, 1⟩, ⟨16, 36, 1, 2, 32, 24, 1⟩, ⟨16, 48, 1, 2, 49, 28, 1⟩]
def symAt (i : Nat) : Sym := syms.getD i ⟨0, 0, 0, 0, 0, 0, 0⟩
def Sym.R (s : Sym) : Nat := s.rows - 2 * s.down
def Sym.C (s : Sym) : Nat := s.cols - 2 * s.across
def Sym.rr (s : Sym) : Nat := s.R / s.down
def Sym.rc (s : Sym) : Nat := s.C / s.across
def Sym.k (s : Sym) : Nat := s.data / s.blocks
def Sym.n (s : Sym) : Nat := s.check / s.blocks

/-- the placement's facts at a size -/
def lays (s : Sym) : Prop := okD s.R s.C = true ∧ okS s.R s.C = true ∧ (layN s.R s.C).length = s.data + s.check

theorem lays_at : ∀ i, i < 29 → lays (symAt i)
  | 0, _ => ⟨okD_8_8, okS_8_8, len_8_8⟩
  | 1, _ => ⟨okD_10_10, okS_10_10, len_10_10⟩
  | 2, _ => ⟨okD_12_12, okS_12_12, len_12_12⟩
  | 3, _ => ⟨okD_14_14, okS_14_14, len_14_14⟩
  | 4, _ => ⟨okD_16_16, okS_16_16, len_16_16⟩
  | 5, _ => ⟨okD_18_18, okS_18_18, len_18_18⟩
  | 6, _ => ⟨okD_20_20, okS_20_20, len_20_20⟩
  | 7, _ => ⟨okD_22_22, okS_22_22, len_22_22⟩
  | 8, _ => ⟨okD_24_24, okS_24_24, len_24_24⟩
  | 9, _ => ⟨okD_28_28, okS_28_28, len_28_28⟩
  | 10, _ => ⟨okD_32_32, okS_32_32, len_32_32⟩
  | 11, _ => ⟨okD_36_36, okS_36_36, len_36_36⟩
  | 12, _ => ⟨okD_40_40, okS_40_40, len_40_40⟩
  | 13, _ => ⟨okD_44_44, okS_44_44, len_44_44⟩
  | 14, _ => ⟨okD_48_48, okS_48_48, len_48_48⟩
  | 15, _ => ⟨okD_56_56, okS_56_56, len_56_56⟩
  | 16, _ => ⟨okD_64_64, okS_64_64, len_64_64⟩
  | 17, _ => ⟨okD_72_72, okS_72_72, len_72_72⟩
  | 18, _ => ⟨okD_80_80, okS_80_80, len_80_80⟩
  | 19, _ => ⟨okD_88_88, okS_88_88, len_88_88⟩
  | 20, _ => ⟨okD_96_96, okS_96_96, len_96_96⟩
  | 21, _ => ⟨okD_108_108, okS_108_108, len_108_108⟩
  | 22, _ => ⟨okD_120_120, okS_120_120, len_120_120⟩
  | 23, _ => ⟨okD_6_16, okS_6_16, len_6_16⟩
  | 24, _ => ⟨okD_6_28, okS_6_28, len_6_28⟩
  | 25, _ => ⟨okD_10_24, okS_10_24, len_10_24⟩
  | 26, _ => ⟨okD_10_32, okS_10_32, len_10_32⟩
  | 27, _ => ⟨okD_14_32, okS_14_32, len_14_32⟩
  | 28, _ => ⟨okD_14_44, okS_14_44, len_14_44⟩
  | i + 29, h => absurd h (by omega)

/-- all shapes of the walk have eight places -/
theorem layG_len (R C : Int) : ∀ (n : Nat) (s : MS), ∀ sh ∈ layG R C n s, sh.length = 8
  | 0, _, sh, h => by simp [layG] at h
  | n + 1, s, sh, h => by
    have cl : ∀ r c sh', corner R C r c = some sh' → sh'.length = 8 := by
      intro r c sh' hc
      unfold corner at hc
      repeat' split at hc
      all_goals first | (cases hc; rfl) | cases hc
    unfold layG at h
    split at h
    · split at h
      · split at h
        · exact layG_len R C n _ sh h
        · rename_i sh2 hc
          split at h
          · simp at h
          · rcases List.mem_cons.1 h with rfl | h
            · exact cl _ _ _ hc
            · exact layG_len R C n _ sh h
      · simp at h
    · split at h
      · split at h
        · split at h
          · simp at h
          · rcases List.mem_cons.1 h with rfl | h
            · rfl
            · exact layG_len R C n _ sh h
        · exact layG_len R C n _ sh h
      · exact layG_len R C n _ sh h
    · split at h
      · split at h
        · split at h
          · simp at h
          · rcases List.mem_cons.1 h with rfl | h
            · rfl
            · exact layG_len R C n _ sh h
        · exact layG_len R C n _ sh h
      · exact layG_len R C n _ sh h
theorem lay_len (R C : Int) (sh : Shp) (h : sh ∈ layN R C) : sh.length = 8 := layG_len R C _ _ sh h

/-- what the walk of the reference lays -/
theorem runS_laid {R C : Int} : ∀ (n : Nat) (s : MS) (L : List Shp) (g : Nat → Int) (done : List Shp), runS R C n s L = true → Laid R C g s.V done → (∀ sh ∈ L, sh.length = 8) → ∃ g' V', Laid R C g' V' (done ++ L)
  | 0, s, L, g, done, h, _, _ => by cases h
  | n + 1, s, L, g, done, h, hl, h8 => by
    have step : ∀ (sh : Shp) (V : Nat) (s' : MS) (f : MS → List Shp → Bool), take8 R C sh s.V = some V → s'.V = V → sh.length = 8 → ∀ L', L = sh :: L' → runS R C n s' L' = true → ∃ g' V', Laid R C g' V' (done ++ L) := by
      intro sh V s' f ht hV hs L' hL hr
      subst hL
      have hn := hl.next hs ht
      rw [← hV] at hn
      have := runS_laid n s' L' _ _ hr hn (fun sh h => h8 sh (by simp [h]))
      rwa [List.append_assoc, List.singleton_append] at this
    unfold runS at h
    split at h
    · split at h
      · split at h
        · exact runS_laid n _ L g done h hl h8
        · rename_i sh hc
          split at h
          · rename_i _ V sh' L' ht
            rw [Bool.and_eq_true] at h
            have he : sh = sh' := by simpa using h.1
            subst he
            exact step sh V _ (fun _ _ => true) ht rfl (h8 sh (by simp)) L' rfl h.2
          · cases h
      · rw [Bool.and_eq_true] at h
        have he : L = [] := by simpa using h.1
        subst he
        exact ⟨g, s.V, by rw [List.append_nil]; exact hl⟩
    · split at h
      · split at h
        · split at h
          · rename_i _ V sh' L' ht
            rw [Bool.and_eq_true] at h
            have he : utahS R C s.row s.col = sh' := by simpa using h.1
            exact step _ V _ (fun _ _ => true) ht rfl rfl L' (by rw [he]) h.2
          · cases h
        · exact runS_laid n _ L g done h hl h8
      · exact runS_laid n _ L g done h hl h8
    · split at h
      · split at h
        · split at h
          · rename_i _ V sh' L' ht
            rw [Bool.and_eq_true] at h
            have he : utahS R C s.row s.col = sh' := by simpa using h.1
            exact step _ V _ (fun _ _ => true) ht rfl rfl L' (by rw [he]) h.2
          · cases h
        · exact runS_laid n _ L g done h hl h8
      · exact runS_laid n _ L g done h hl h8
/-- all places of all shapes lie within -/
theorem lay_in {R C : Nat} (h : okS R C = true) {o j : Nat} {sh : Shp} {pl : Pl} (hs : (layN R C)[o]? = some sh) (hj : sh[j]? = some pl) : 0 ≤ pl.1 ∧ pl.1.toNat < R ∧ 0 ≤ pl.2 ∧ pl.2.toNat < C := by
  obtain ⟨g, V, hl⟩ := runS_laid _ _ _ _ _ h (Laid.start R C) (lay_len R C)
  rw [List.nil_append] at hl
  have := of_decide_eq_true (hl.at_ o j sh pl hs hj).2.2
  omega

/-- the numbers of a size -/
structure SymFine (s : Sym) : Prop where
  b0 : 0 < s.blocks ∧ s.blocks ≤ 8
  dk : s.data = s.k * s.blocks
  cn : s.check = s.n * s.blocks
  n0 : 5 ≤ s.n ∧ s.n ≤ 68
  k0 : 3 ≤ s.k ∧ s.k + s.n ≤ 255
  rw_ : s.down * (s.rr + 2) = s.rows ∧ s.across * (s.rc + 2) = s.cols ∧ s.rows / s.rr = s.down ∧ s.cols / s.rc = s.across ∧ 0 < s.rr ∧ 0 < s.rc ∧ 0 < s.down ∧ 0 < s.across
  rc_ : s.R = s.down * s.rr ∧ s.C = s.across * s.rc
  ge : 8 ≤ s.rows ∧ s.rows ≤ 132 ∧ s.rows % 2 = 0 ∧ 10 ≤ s.cols ∧ s.cols ≤ 132 ∧ s.cols % 2 = 0
  hw : s.rows / s.down = s.rr + 2 ∧ s.cols / s.across = s.rc + 2
  dc : s.data ≤ 1304 ∧ s.check ≤ 496

instance (s : Sym) : Decidable (SymFine s) :=
  decidable_of_iff ((0 < s.blocks ∧ s.blocks ≤ 8) ∧ s.data = s.k * s.blocks ∧ s.check = s.n * s.blocks ∧ (5 ≤ s.n ∧ s.n ≤ 68) ∧ (3 ≤ s.k ∧ s.k + s.n ≤ 255) ∧
    (s.down * (s.rr + 2) = s.rows ∧ s.across * (s.rc + 2) = s.cols ∧ s.rows / s.rr = s.down ∧ s.cols / s.rc = s.across ∧ 0 < s.rr ∧ 0 < s.rc ∧ 0 < s.down ∧ 0 < s.across) ∧ (s.R = s.down * s.rr ∧ s.C = s.across * s.rc) ∧
    (8 ≤ s.rows ∧ s.rows ≤ 132 ∧ s.rows % 2 = 0 ∧ 10 ≤ s.cols ∧ s.cols ≤ 132 ∧ s.cols % 2 = 0) ∧ (s.rows / s.down = s.rr + 2 ∧ s.cols / s.across = s.rc + 2) ∧ (s.data ≤ 1304 ∧ s.check ≤ 496))
    ⟨fun ⟨a, b, c, d, e, f, g, h, i, j⟩ => ⟨a, b, c, d, e, f, g, h, i, j⟩, fun ⟨a, b, c, d, e, f, g, h, i, j⟩ => ⟨a, b, c, d, e, f, g, h, i, j⟩⟩
theorem symFine : ∀ i, i < 29 → SymFine (symAt i) := by decide +kernel
end Zx
namespace Go.Proofs.YtcnallabiffemaaGreatDoor
open Go.RowKit (wrap32 wrap64 intOf Hid Below)
open Zx

/-- a size, as a value -/
def sv (s : Sym) : Value := .agg #[num s.rows, num s.cols, num s.down, num s.across, num s.data, num s.check, num s.blocks]

theorem sum_R {s : Sym} (hf : SymFine s) : s.rows = s.R + 2 * s.down ∧ s.cols = s.C + 2 * s.across ∧ s.down ≤ 132 ∧ s.across ≤ 132 := by
  have h1 := hf.rw_.1
  have h2 := hf.rw_.2.1
  rw [Nat.mul_add, ← hf.rc_.1] at h1
  rw [Nat.mul_add, ← hf.rc_.2] at h2
  have := hf.ge
  omega

theorem w64n (n : Nat) (h : n ≤ 1000) : wrap64 (n : Int) = (n : Int) := IntWalk.wrap64_in _ (by omega)
theorem ret_ii {a b c d : Int} (h : a = b) (h2 : c = d) : Ending.returned (.tuple #[.int .i64 a, .int .i64 c]) = .returned (.tuple #[.int .i64 b, .int .i64 d]) := by rw [h, h2]
theorem innerC (w : World) (s : Sym) (hf : SymFine s) : Calls Tryz.prog 62 #[sv s] w fun e w' => e = .returned (.tuple #[num s.R, num s.C]) ∧ Below w.heap.size w w' := by
  have hR := sum_R hf
  have hge := hf.ge
  unfold sv
  obtain ⟨a1, h1⟩ : ∃ a, s.rows = a := ⟨_, rfl⟩
  obtain ⟨a2, h2⟩ : ∃ a, s.cols = a := ⟨_, rfl⟩
  rw [h1, h2] at hR hge ⊢
  have c0 : ∀ i, (w.alloc (.cells #[num a1, num a2, num s.down, num s.across, num s.data, num s.check, num s.blocks] 27)).cell? ⟨w.heap.size, i, none⟩ = (#[num a1, num a2, num s.down, num s.across, num s.data, num s.check, num s.blocks])[i]? := fun i => World.cell?_alloc_new w _ _ i
  have c00 := c0 0
  have c01 := c0 1
  have c02 := c0 2
  have c03 := c0 3
  simp only [List.getElem?_toArray, List.getElem?_cons_zero, List.getElem?_cons_succ] at c00 c01 c02 c03
  clear c0 h1 h2
  go_enter Tryz.func62, Tryz.ntmps62
  go_wp2_with fail
  go_quiet (fail)
  go_wp2
  go_ret2
  exact ⟨ret_ii (by omega) (by omega), ((Below.refl _ _).alloc (Nat.le_refl _) _).trans (below_dn _ _ _)⟩
end Go.Proofs.YtcnallabiffemaaGreatDoor
namespace Go.Proofs.YtcnallabiffemaaGreatDoor
open Go.RowKit (wrap32 wrap64 intOf Hid Below)
open Zx

/-- data codewords with k pads behind them -/
def fillN (data : List Nat) : Nat → List Nat
  | 0 => data
  | k + 1 => fillN data k ++ [if k = 0 then 129 else padN (data.length + k + 1)]
theorem fillN_len (data : List Nat) (k : Nat) : (fillN data k).length = data.length + k := by
  induction k with
  | zero => rfl
  | succ k ih => rw [fillN, List.length_append, ih]; rfl
theorem fillN_split (data : List Nat) (k : Nat) : ∃ pads, fillN data (k + 1) = data ++ 129 :: pads ∧ pads.length = k ∧ ∀ x ∈ pads, x < 256 := by
  induction k with
  | zero => exact ⟨[], rfl, rfl, fun x h => by simp at h⟩
  | succ k ih =>
    obtain ⟨p, h1, h2, h3⟩ := ih
    refine ⟨p ++ [padN (data.length + (k + 1) + 1)], ?_, by rw [List.length_append, h2]; rfl, fun x h => ?_⟩
    · rw [fillN, h1, if_neg (by omega)]; simp
    · rcases List.mem_append.1 h with h | h
      · exact h3 x h
      · simp at h; rw [h]; exact padN_lt _

/-- a slice of numbers that is there -/
def Rd (w : World) (v : Value) (l : List Nat) : Prop := ∃ g cap, v = .slice (some ⟨g, 0, none⟩) l.length cap ∧ g < w.heap.size ∧ ∀ (j : Nat) (u : Value), (l.map num)[j]? = some u → w.cell? ⟨g, j, none⟩ = some u
theorem Rd.below {w w' : World} {v : Value} {l : List Nat} (h : Rd w v l) (hb : Below w.heap.size w w') : Rd w' v l := by
  obtain ⟨g, cap, h1, h2, h3⟩ := h
  exact ⟨g, cap, h1, Nat.lt_of_lt_of_le h2 hb.size, fun j u hu => (hb.cell (p := ⟨g, j, none⟩) h2).trans (h3 j u hu)⟩
theorem Ig.rd {w wr : World} {x : Value} {l : List Nat} (h : Ig w wr x l) (hl : l ≠ []) : Rd wr x l := by
  rcases h.own.shape with ⟨_, h0⟩ | ⟨g, cap, h1, _, h3, _, h5, _⟩
  · exact absurd (List.map_eq_nil_iff.1 h0) hl
  · exact ⟨g, cap, by rw [h1, List.length_map], h3, h5⟩

/-- an empty literal -/
theorem Ig.lit0 {w wr : World} (hb : Below w.heap.size w wr) : Ig w (wr.alloc (.cells #[] 3)) (.slice (some ⟨wr.heap.size, 0, none⟩) 0 0) [] :=
  ⟨⟨rfl, .inr ⟨wr.heap.size, 0, _, rfl, hb.size, heap_alloc_new wr _, Nat.le_refl _, by unfold maxLen; omega, rfl, rfl⟩⟩, hb.alloc hb.size _⟩
theorem Ig.appL {w wr w' : World} {x x' : Value} {l m : List Nat} (h : Ig w wr x l) (ha : AppTo wr w' 3 w.heap.size x x' (l.map num ++ m.map num)) : Ig w w' x' (l ++ m) :=
  ⟨by rw [show OwnI w' w.heap.size x' (l ++ m) = OwnV w' 3 w.heap.size x' ((l ++ m).map num) from rfl, List.map_append]; exact ha.own, h.bel.trans (ha.to.below h.own h.bel.size)⟩

def FillTo (w : World) (l : List Nat) (e : Ending) (w' : World) : Prop := ∃ v, e = .returned v ∧ Ig w w' v l

set_option maxRecDepth 100000 in
set_option maxHeartbeats 2000000 in
theorem filledC (w : World) (s : Sym) (v : Value) (data : List Nat) (hv : Rd w v data) (hd0 : data ≠ []) (hd : data.length ≤ s.data) (hs : s.data ≤ 2000) : Calls Tryz.prog 9 #[sv s, v] w (FillTo w (fillN data (s.data - data.length))) := by
  obtain ⟨g, cap, rfl, hg, hcells⟩ := hv
  obtain ⟨n, hn⟩ : ∃ n, data.length = n := ⟨_, rfl⟩
  have hn0 : 0 < n := by rw [← hn]; exact List.length_pos_iff.2 hd0
  rw [hn] at hd ⊢
  have HN := Lib.hid hn; clear hn hd0
  unfold sv
  obtain ⟨w1, hw1⟩ : ∃ w1, w.alloc (.cells #[num s.rows, num s.cols, num s.down, num s.across, num s.data, num s.check, num s.blocks] 27) = w1 := ⟨_, rfl⟩
  have c4 : w1.cell? ⟨w.heap.size, 4, none⟩ = some (num s.data) := by rw [← hw1]; exact World.cell?_alloc_new w _ _ 4
  have b1 : Hid (Below w.heap.size w w1) := Lib.hid (by rw [← hw1]; exact (Below.refl _ _).alloc (Nat.le_refl _) _)
  have z1 : Hid (w1.heap.size = w.heap.size + 1) := Lib.hid (by rw [← hw1, World.size_alloc])
  have C4 := Lib.hid c4; clear c4
  have hc2 : ∀ (j : Nat) (u : Value), (data.map num)[j]? = some u → (w1.alloc (.cells #[] 3)).cell? ((⟨g, 0, none⟩ : Addr).add j) = some u := fun j u hu => by
    rw [addr_add, Nat.zero_add]
    have := (b1.out.alloc (by have := z1.out; omega) (.cells #[] 3)).cell (p := ⟨g, j, none⟩) hg
    exact this.trans (hcells j u hu)
  have HC2 := Lib.hid hc2; clear hc2 hcells
  have l0 := Lib.hid (Ig.lit0 (Below.refl w1.heap.size w1))
  go_enter Tryz.func9, Tryz.ntmps9
  go_wp2_with (at_builtin; refine wpList_appV rfl (.tmp 6) (.tmp 7) 22 3 rfl Tryz.underlying22 (.int .i64 0) 8 infoI rfl (by decide) w1.heap.size (.slice (some ⟨w1.heap.size, 0, none⟩) 0 0) (([] : List Nat).map num) rfl l0.out.own ⟨g, 0, none⟩ n cap (data.map num) rfl (by rw [List.length_map, HN.out]) HC2.out (num_one _) (by simp; omega) (l0.out.bel.size) ?_)
  intro x w2 H
  have i2 := Ig.appL l0.out H.out
  rw [List.nil_append] at i2
  have hr2 := i2.rd (by intro h; have := HN.out; rw [h] at this; simp at this; omega)
  obtain ⟨g2, cap2, rfl, _, _⟩ := hr2
  rw [HN.out] at i2 ⊢
  have I2 := Lib.hid i2; clear i2 H l0
  go_wp2_with fail
  go_loopg [5] (s.data - n) (fun gh s5 wr => ∃ (g2 cap2 k : Nat), s5 = .slice (some ⟨g2, 0, none⟩) (n + k) cap2 ∧ n + k ≤ s.data ∧ gh = s.data - (n + k) ∧ Ig w1 wr (.slice (some ⟨g2, 0, none⟩) (n + k) cap2) (fillN data k))
  case atStart => exact ⟨g2, cap2, 0, rfl, hd, rfl, I2.out⟩
  case round =>
    clear I2
    obtain ⟨g3, cap3, k, rfl, hk, hgk, hig⟩ := hrel
    obtain ⟨gM, rfl⟩ : ∃ g, g = gk := ⟨_, rfl⟩
    obtain ⟨w3, rfl⟩ : ∃ w3 : World, w3 = wr := ⟨_, rfl⟩
    have hfl := fillN_len data k
    rw [HN.out] at hfl
    have HGK := Lib.hid hgk; clear hgk
    have IG := Lib.hid hig; clear hig
    have HFL := Lib.hid hfl; clear hfl
    have hzz := z1.out
    have c4 := (IG.out.bel.cell (p := ⟨w.heap.size, 4, none⟩) (show w.heap.size < w1.heap.size by omega)).trans C4.out
    clear hzz
    by_cases hlt : n + k < s.data
    · have hfn : fillN data (k + 1) = fillN data k ++ [if k = 0 then 129 else padN (n + k + 1)] := by rw [fillN, HN.out]
      have HFN := Lib.hid hfn; clear hfn
      by_cases hk0 : k = 0
      · subst hk0
        rw [if_pos rfl] at HFN
        have q := int_bt (a := ((n + 0 : Nat) : Int)) (b := (n : Int)) rfl
        go_wp2_with (at_builtin; refine wpList_appV rfl (.tmp 19) (.tmp 20) 22 3 rfl Tryz.underlying22 (.int .i64 0) 8 infoI rfl (by decide) w1.heap.size _ ((fillN data 0).map num) rfl (IG.out.new _) ⟨w3.heap.size, 0, none⟩ 1 1 [_] rfl rfl (cell_one_new _ _ _) (one_i64 _) (IG.out.room (by rw [HFL.out]; omega)) (IG.out.bs _) ?_)
        intro x' w4 H
        have i5 := IG.out.app (c := 129) H.out (by first | rfl | exact val_int (by omega))
        rw [← HFN.out] at i5
        have hl5 := fillN_len data (0 + 1)
        rw [HN.out] at hl5
        have hr5 := i5.rd (by intro h; rw [h] at hl5; simp at hl5)
        obtain ⟨g5, cap5, rfl, _, _⟩ := hr5
        rw [hl5] at i5 ⊢
        have I5 := Lib.hid i5; clear i5 hl5 H IG c4
        go_wp2
        go_roundg (s.data - (n + (0 + 1)))
        case rel => exact ⟨g5, cap5, 0 + 1, rfl, by omega, rfl, I5.out⟩
        case measure => have := HGK.out; omega
      · have q := int_bf (a := ((n + k : Nat) : Int)) (b := (n : Int)) (by omega)
        rw [if_neg hk0] at HFN
        have pc := padC w3 (n + k + 1) (by omega)
        rw [show ((n + k + 1 : Nat) : Int) = ((n + k : Nat) : Int) + 1 by omega] at pc
        go_wp2_with fail
        refine pc.mono ?_
        rintro e w' ⟨rfl, hw⟩
        obtain rfl := hw
        clear pc
        go_wp2_with (at_builtin; refine wpList_appV rfl (.tmp 22) (.tmp 27) 22 3 rfl Tryz.underlying22 (.int .i64 0) 8 infoI rfl (by decide) w1.heap.size _ ((fillN data k).map num) rfl (IG.out.new _) ⟨w3.heap.size, 0, none⟩ 1 1 [_] rfl rfl (cell_one_new _ _ _) (one_i64 _) (IG.out.room (by rw [HFL.out]; omega)) (IG.out.bs _) ?_)
        intro x' w4 H
        have i5 := IG.out.app (c := padN (n + k + 1)) H.out (by first | rfl | exact val_int (by omega))
        rw [← HFN.out] at i5
        have hl5 := fillN_len data (k + 1)
        rw [HN.out] at hl5
        have hr5 := i5.rd (by intro h; rw [h] at hl5; simp at hl5)
        obtain ⟨g5, cap5, rfl, _, _⟩ := hr5
        rw [hl5] at i5 ⊢
        have I5 := Lib.hid i5; clear i5 hl5 H IG c4
        go_wp2
        go_roundg (s.data - (n + (k + 1)))
        case rel => exact ⟨g5, cap5, k + 1, rfl, by omega, rfl, I5.out⟩
        case measure => have := HGK.out; omega
    · have hkk : s.data - n = k := by omega
      have HKK := Lib.hid hkk; clear hkk
      have hbw := b1.out
      go_wp2
      go_ret
      refine ⟨_, rfl, ?_⟩
      rw [HKK.out]
      exact ⟨IG.out.own.base hbw.size, hbw.trans (IG.out.bel.mono hbw.size)⟩
end Go.Proofs.YtcnallabiffemaaGreatDoor
namespace Go.Proofs.YtcnallabiffemaaGreatDoor
open Go.RowKit (wrap32 wrap64 intOf Hid Below)
open Zx

/-- a list of the field, as numbers -/
abbrev vs (l : List F) : List Nat := l.map (·.v)
theorem timesF (a b : F) (w : World) : Calls Tryz.prog 49 #[fv a, fv b] w fun e w' => e = .returned (fv (a * b)) ∧ w = w' := times_any a.v b.v a.lt b.lt w

theorem vs_get (l : List F) (i : Nat) (h : i < l.length) : ((vs l).map num)[i]? = some (fv (hi l i)) := by
  rw [List.getElem?_map, List.getElem?_map, List.getElem?_eq_getElem h]
  show some (num (l[i]).v) = some (num (hi l i).v)
  unfold hi
  rw [List.getD_eq_getElem?_getD, List.getElem?_eq_getElem h]; rfl

/-- the generator's next, under way -/
def stF (g : List F) (r : F) (j k : Nat) : F := hi g k + (if 1 ≤ k ∧ k ≤ j then hi g (k - 1) * r else 0)
def gP (g : List F) (r : F) (j : Nat) : List F := (List.range (g.length + 1)).map (stF g r j)
theorem gP_len (g : List F) (r : F) (j : Nat) : (gP g r j).length = g.length + 1 := by simp [gP]
theorem gP_hi (g : List F) (r : F) (j k : Nat) (h : k < g.length + 1) : hi (gP g r j) k = stF g r j k := hi_map _ _ _ h
theorem gP_zero (g : List F) (r : F) : gP g r 0 = g ++ [0] := by
  refine hi_ext (by rw [gP_len, List.length_append]; rfl) fun k hk => ?_
  rw [gP_len] at hk
  rw [gP_hi g r 0 k hk, hi_append]
  unfold stF
  rw [if_neg (by omega), add_zero]
  by_cases h : k < g.length
  · rw [if_pos h]
  · rw [if_neg h, hi_bd g k (by omega), show k - g.length = 0 by omega]; rfl
theorem gP_set (g : List F) (r : F) (j : Nat) (hj : j < g.length) : (gP g r j).set (j + 1) (hi g (j + 1) + hi g j * r) = gP g r (j + 1) := by
  refine hi_ext (by rw [List.length_set, gP_len, gP_len]) fun k hk => ?_
  rw [List.length_set, gP_len] at hk
  rw [hi_set _ _ _ _ (by rw [gP_len]; exact hk), gP_hi g r j k hk, gP_hi g r (j + 1) k hk]
  unfold stF
  by_cases h : j + 1 = k
  · subst h
    rw [if_pos rfl, if_pos (by omega)]; rfl
  · rw [if_neg h]
    congr 1
    by_cases h2 : 1 ≤ k ∧ k ≤ j
    · rw [if_pos h2, if_pos (by omega)]
    · rw [if_neg h2, if_neg (by omega)]
theorem gP_end (g : List F) (r : F) : gP g r g.length = addRoot g r := by
  refine hi_ext (by rw [gP_len, addRoot_len]) fun k hk => ?_
  rw [gP_len] at hk
  rw [gP_hi g r _ k hk]
  unfold addRoot stF
  rw [hi_map _ _ _ hk]
  congr 1
  by_cases h : k = 0
  · rw [if_pos h, if_neg (by omega)]
  · rw [if_neg h, if_pos (by omega)]

/-- an element is stored -/
theorem Ig.set {w wr : World} {g cap n : Nat} {l : List Nat} (h : Ig w wr (.slice (some ⟨g, 0, none⟩) n cap) l) (j v : Nat) : Ig w (wr.setCell ⟨g, j, none⟩ (num v)) (.slice (some ⟨g, 0, none⟩) n cap) (l.set j v) := by
  have hn : l.length = n := by
    rcases h.own.shape with ⟨h1, _⟩ | ⟨g2, c2, h1, _⟩
    · cases h1
    · rw [List.length_map] at h1; cases h1; rfl
  have hb := (h.own.lt (k := g) rfl).1
  have ho : wr.ownsRow w.heap.size 3 1 (.slice (some ⟨g, 0, none⟩) n cap) n (l.map num) := by
    have := h.own
    unfold OwnI OwnV at this
    rw [List.length_map, hn] at this; exact this
  refine ⟨?_, h.bel.setCell hb _⟩
  have := (ho.stored j (num v)).1
  unfold OwnI OwnV
  rw [List.length_map, List.length_set, hn, List.map_set]; exact this
theorem Ig.frz {w wr : World} {g cap n : Nat} {l : List Nat} (h : Ig w wr (.slice (some ⟨g, 0, none⟩) n cap) l) (j : Nat) : wr.frozen? ⟨g, j, none⟩ = false := by
  rcases h.own.shape with ⟨h1, _⟩ | ⟨g2, c2, h1, _, _, _, _, h7⟩
  · cases h1
  · cases h1; exact h7 j
theorem Ig.at_ {w wr : World} {g cap n : Nat} {l : List F} (h : Ig w wr (.slice (some ⟨g, 0, none⟩) n cap) (vs l)) (j : Nat) (hj : j < l.length) : wr.cell? ⟨g, j, none⟩ = some (fv (hi l j)) := by
  rcases h.own.shape with ⟨h1, _⟩ | ⟨g2, c2, h1, _, _, _, h6, _⟩
  · cases h1
  · cases h1; exact h6 j _ (vs_get l j hj)
end Go.Proofs.YtcnallabiffemaaGreatDoor
namespace Go.Proofs.YtcnallabiffemaaGreatDoor
open Go.RowKit (wrap32 wrap64 intOf Hid Below)
open Zx

set_option maxRecDepth 100000 in
set_option maxHeartbeats 8000000 in
theorem checkC (w : World) (v : Value) (data : List F) (n : Nat) (hv : Rd w v (vs data)) (hn : 2 ≤ n ∧ n ≤ 100) (hd : data.length ≤ 5000) : Calls Tryz.prog 23 #[v, .int .i64 n] w (FillTo w (vs (chk data n))) := by
  obtain ⟨gd, cd, rfl, hgd, hdc⟩ := hv
  have hL : (vs data).length = data.length := List.length_map _
  rw [hL]
  have HDC := Lib.hid hdc; clear hdc
  have hmk := run_make_row' (P := Tryz.prog) 22 3 (.int .i64 0) 8 Tryz.underlying22 info3 rfl .i64 .i64 n (by omega) (by omega)
  go_enter Tryz.func23, Tryz.ntmps23
  have ll0 := Lib.hid (Ig.lit (Below.refl w.heap.size w) 1)
  go_wp2_with fail
  go_loopw [5, 6, 7] (fun s5 s6 s7 wr => ∃ (g cap i m : Nat), s5 = .slice (some ⟨g, 0, none⟩) m cap ∧ m = i + 1 ∧ i ≤ n ∧ s6 = .int .i64 i ∧ s7 = fv (al (i + 1)) ∧ Ig w wr (.slice (some ⟨g, 0, none⟩) m cap) (vs (gen i))) (fun _ s6 _ _ => n - (intOf s6).toNat)
  case atStart => exact ⟨_, 1, 0, 1, rfl, rfl, Nat.zero_le _, rfl, rfl, ll0.out⟩
  case round =>
    clear ll0
    obtain ⟨g, cap, i, m, rfl, hm, hile, rfl, rfl, hig⟩ := hrel
    obtain ⟨w1, rfl⟩ : ∃ w1 : World, w1 = wr := ⟨_, rfl⟩
    by_cases hin : i < n
    · have hgl := gen_len i
      rw [← hm] at hgl
      have hml : m ≤ 101 := by omega
      have HM := Lib.hid hm; clear hm
      have hgb := (hig.own.lt (k := g) rfl).2
      have hat := fun j hj => hig.at_ j hj
      have hxl : gen (i + 1) = addRoot (gen i) (al (i + 1)) := rfl
      have hal : al (i + 1) * al 1 = al (i + 1 + 1) := al_mul _ _
      generalize gen i = G at hig hgl hat hxl
      generalize al (i + 1) = r at hxl hal ⊢
      have HAL := Lib.hid hal; clear hal
      have HXL := Lib.hid hxl; clear hxl
      have HAT := Lib.hid hat; clear hat
      have HGL := Lib.hid hgl; clear hgl
      have IG := Lib.hid hig; clear hig
      have l1 := Lib.hid (Ig.lit0 (Below.refl w1.heap.size w1))
      have hc2 : ∀ (j : Nat) (u : Value), ((vs G).map num)[j]? = some u → (w1.alloc (.cells #[] 3)).cell? ((⟨g, 0, none⟩ : Addr).add j) = some u := fun j u hu => by
        rw [addr_add, Nat.zero_add]
        have hj : j < G.length := by have := (List.getElem?_eq_some_iff.1 hu).1; simpa using this
        rw [vs_get G j hj] at hu
        cases hu
        exact (((Below.refl w1.heap.size w1).alloc (Nat.le_refl _) (.cells #[] 3)).cell (p := ⟨g, j, none⟩) hgb).trans (HAT.out j hj)
      have HC2 := Lib.hid hc2; clear hc2
      go_wp2_with (first | ((with_reducible show wpList _ _ _ (Oper.mk (some 25) _ _ _ _ _ :: _) _ _); refine wpList_appV rfl (.tmp 23) (.tmp 24) 22 3 rfl Tryz.underlying22 (.int .i64 0) 8 infoI rfl (by decide) w1.heap.size (.slice (some ⟨w1.heap.size, 0, none⟩) 0 0) (([] : List Nat).map num) rfl l1.out.own ⟨g, 0, none⟩ m cap ((vs G).map num) rfl (by rw [List.length_map, List.length_map, HGL.out]) HC2.out (num_one _) (by simp; omega) (l1.out.bel.size) ?_; intro y w2 H; have I2 : Hid (Ig w1 w2 y (vs G)) := Lib.hid (Ig.appL l1.out H.out)) | ((with_reducible show wpList _ _ _ (Oper.mk (some 27) _ _ _ _ _ :: _) _ _); refine wpList_appV rfl (.tmp 25) (.tmp 26) 22 3 rfl Tryz.underlying22 (.int .i64 0) 8 infoI rfl (by decide) w1.heap.size y ((vs G).map num) rfl (I2.out.new _) ⟨w2.heap.size, 0, none⟩ 1 1 [_] rfl rfl (cell_one_new _ _ _) (one_i64 _) (by rw [List.length_map, List.length_map, HGL.out]; omega) (I2.out.bs _) ?_; intro y2 w3 H2; have I3 := Lib.hid (I2.out.app (c := 0) H2.out rfl)))
      clear H H2 HC2 l1
      have i3 := I3.out
      rw [show vs G ++ [0] = vs (gP G r 0) by rw [gP_zero, vs, vs, List.map_append]; rfl] at i3
      have hne : vs (gP G r 0) ≠ [] := fun h => by have := congrArg List.length h; rw [List.length_map, gP_len] at this; simp at this
      obtain ⟨g2, cap2, rfl, _, _⟩ := i3.rd hne
      rw [List.length_map, gP_len, HGL.out] at i3 ⊢
      obtain ⟨n2, hn2⟩ : ∃ n2, m + 1 = n2 := ⟨_, rfl⟩
      rw [hn2] at i3 ⊢
      have I4 := Lib.hid i3; clear i3 I3 I2 hne
      have HN2 := Lib.hid hn2; clear hn2
      go_loopw [30] (fun s30 wr => ∃ j : Nat, j ≤ m ∧ s30 = .int .i64 j ∧ Ig w1 wr (.slice (some ⟨g2, 0, none⟩) n2 cap2) (vs (gP G r j))) (fun s30 _ => m - (intOf s30).toNat)
      case atStart => exact ⟨0, Nat.zero_le _, rfl, I4.out⟩
      case round =>
        clear I4
        obtain ⟨j, hj, rfl, hig⟩ := hrel
        obtain ⟨w4, rfl⟩ : ∃ w4 : World, w4 = wr := ⟨_, rfl⟩
        by_cases hji : j < m
        · have c1 := hig.at_ (j + 1) (by rw [gP_len, HGL.out]; omega)
          rw [gP_hi G r j (j + 1) (by rw [HGL.out]; omega)] at c1
          have es : stF G r j (j + 1) = hi G (j + 1) := by unfold stF; rw [if_neg (by omega), add_zero]
          rw [es] at c1
          have c2 := (hig.bel.cell (p := ⟨g, j, none⟩) hgb).trans (HAT.out j (by rw [HGL.out]; exact hji))
          have f1 := hig.frz (j + 1)
          have st := hig.set (j + 1) (hi G (j + 1) + hi G j * r).v
          have e2 : (vs (gP G r j)).set (j + 1) (hi G (j + 1) + hi G j * r).v = vs (gP G r (j + 1)) := by
            rw [← gP_set G r j (by rw [HGL.out]; exact hji)]; exact List.map_set.symm
          rw [e2] at st
          have ST := Lib.hid st; clear st e2 es hig
          obtain ⟨J, hJ⟩ : ∃ J, j + 1 = J := ⟨_, rfl⟩
          rw [hJ] at c1 f1 ST
          have eJ : ((j : Int) + 1).toNat = J := by omega
          have hJ0 : (0 : Int) ≤ (j : Int) + 1 := by omega
          have hJl : (j : Int) + 1 < (n2 : Int) := by have := HN2.out; omega
          have hji2 : (j : Int) < (m : Int) := by omega
          have HJ := Lib.hid hJ; clear hJ
          generalize hi G J = A at c1 ST
          generalize hi G j = B at c2 ST
          clear hin hn hd hgd hgb hL hile hj hmk
          go_wp2_with fail
          refine wp_region_quiet_tail 13 (by kernel_rfl) (by kernel_rfl) ?_
          simp only [List.take_succ_cons, List.take_zero, List.drop_succ_cons, List.drop_zero]
          repeat (first | go_big_quiet_step ((go_at_call 49; refine (timesF _ _ _).mono ?_; rintro e w' ⟨rfl, rfl⟩; exact ⟨rfl, _, rfl⟩)) | quiet_step ((go_at_call 49; refine (timesF _ _ _).mono ?_; rintro e w' ⟨rfl, rfl⟩; exact ⟨rfl, _, rfl⟩)))
          refine wpQuiet_nil ?_
          intro _ hw1q
          obtain ⟨nq, hw2q⟩ := hw1q
          subst hw2q
          go_wp2
          go_roundw
          case rel => exact ⟨j + 1, hji, by go_num, by rw [HJ.out, xor_f]; exact ST.out.dn _⟩
          case measure => simp [intOf]; omega
        · obtain rfl : j = m := by omega
          have tf : Hid (∀ w : World, Calls Tryz.prog 49 #[fv r, .int .i64 2] w fun e w' => e = .returned (fv (al (i + 1 + 1))) ∧ w = w') := Lib.hid fun w => by
            have := timesF r (al 1) w
            rw [HAL.out] at this
            exact this
          rw [show gP G r j = gen (i + 1) by rw [HXL.out, ← gP_end, HGL.out]] at hig
          have I5 := Lib.hid hig; clear hig
          go_wp2_with fail
          refine (tf.out _).mono ?_
          rintro e w' ⟨rfl, hw⟩
          obtain rfl := hw
          go_wp2
          go_roundw
          case rel => exact ⟨g2, cap2, i + 1, n2, rfl, by have := HM.out; have := HN2.out; omega, hin, by go_num, rfl, I5.out.own.base IG.out.bel.size, IG.out.bel.trans (I5.out.bel.mono IG.out.bel.size)⟩
          case measure => simp [intOf]; omega
    · obtain rfl : n = i := by omega
      have hgl := gen_len n
      have hgb := (hig.own.lt (k := g) rfl).2
      have hat := fun j (hj : j < (gen n).length) => hig.at_ j hj
      have hmn : m = n + 1 := hm
      have hchk : chk data n = lfr (gen n) n data := rfl
      generalize gen n = G at hig hgl hat hchk
      have HCHK := Lib.hid hchk; clear hchk
      have HAT := Lib.hid hat; clear hat
      have HGL := Lib.hid hgl; clear hgl
      have BW := Lib.hid hig.bel; clear hig
      have HM := Lib.hid hmn; clear hmn hm
      obtain ⟨D, hD⟩ : ∃ D, data.length = D := ⟨_, rfl⟩
      rw [hD] at hd hL ⊢
      have HD := Lib.hid hD; clear hD
      have HLL := Lib.hid hL; clear hL
      have r0 := Lib.hid (World.rowIs_made w1 (.int .i64 0) n 3)
      have b0 := Lib.hid ((Below.refl w1.heap.size w1).alloc (Nat.le_refl _) (.cells (madeCells #[.int .i64 0] n) 3))
      go_wp2_with fail
      clear hmk
      obtain ⟨rb, hrb⟩ : ∃ rb, w1.heap.size = rb := ⟨_, rfl⟩
      rw [hrb] at r0 hgb ⊢
      have HRB := Lib.hid hrb; clear hrb
      go_loopw [52] (fun s52 wr => ∃ (t : Nat) (Rl : List F), t ≤ D ∧ s52 = .int .i64 t ∧ Rl = lfr G n (data.take t) ∧ wr.rowIs rb 3 n (fun i => fv (hi Rl i)) ∧ Below w1.heap.size w1 wr) (fun s52 _ => D - (intOf s52).toNat)
      case atStart =>
        refine ⟨0, _, Nat.zero_le _, rfl, rfl, r0.out.congr fun i _ => ?_, b0.out⟩
        show Value.int .i64 0 = fv (hi (List.replicate n 0) i)
        have : hi (List.replicate n (0 : F)) i = 0 := by
          unfold hi; rw [List.getD_eq_getElem?_getD, List.getElem?_replicate]; split <;> rfl
        rw [this]; rfl
      case round =>
        clear r0 b0
        obtain ⟨t, Rl, ht, rfl, hRl, hrow, hbel⟩ := hrel
        obtain ⟨w2, rfl⟩ : ∃ w2 : World, w2 = wr := ⟨_, rfl⟩
        by_cases htD : t < D
        · have hRn : Rl.length = n := by rw [hRl]; exact lfr_len _ _ _
          have hnext : lfr G n (data.take (t + 1)) = lfs G n Rl (hi data t) := by
            have hg : data[t]? = some (hi data t) := by unfold hi; rw [List.getD_eq_getElem?_getD, List.getElem?_eq_getElem (by rw [HD.out]; exact htD)]; rfl
            rw [List.take_add_one, hg, hRl]; exact lfr_snoc _ _ _ _
          have HNX := Lib.hid hnext; clear hnext hRl
          have HRN := Lib.hid hRn; clear hRn
          have c1 := (hbel.cell (p := ⟨gd, t, none⟩) (show gd < w1.heap.size from Nat.lt_of_lt_of_le hgd BW.out.size)).trans ((BW.out.cell (p := ⟨gd, t, none⟩) hgd).trans (HDC.out t _ (vs_get data t (by rw [HD.out]; exact htD))))
          have c2 := hrow.cell (i := 0) (by omega)
          generalize hi data t = d at c1 HNX
          have HROW := Lib.hid hrow; clear hrow
          have HBEL := Lib.hid hbel; clear hbel
          go_upto_region 16 with fail
          go_cut [13] from 54 to 60 (fun s13 wx => s13 = fv (d + hi Rl 0) ∧ wx = w2)
          case first =>
            go_wp2
            go_meet
            exact ⟨val_int (xor_f _ _), rfl⟩
          obtain ⟨rfl, hwc⟩ := hcut
          rw [hwc]; clear hwc wc c1 c2
          apply_assumption
          obtain ⟨ld, hld⟩ : ∃ ld, d + hi Rl 0 = ld := ⟨_, rfl⟩
          rw [hld]
          have HLD := Lib.hid hld; clear hld
          have h1n : 2 ≤ n := hn.1
          have h1i : (1 : Int) ≤ (n : Int) := by omega
          go_wp2_with ((with_reducible show wpList _ _ _ (Oper.mk (some 64) _ _ _ _ _ :: _) _ _); go_loud (refine wpList_copy_row rfl (.tmp 61) (.tmp 63) 22 22 rfl 3 Tryz.underlying22 size3 rb 0 n n (some ⟨rb, 1, none⟩) (n - 1) (n - 1) rfl (by first | rfl | (go_simp; done) | (go_simp; omega)) 3 n (fun i => fv (hi Rl i)) ?c0 (n - 1) ?c1 (fun j => fv (hi Rl (j + 1))) ?c2 ?c3 ?c4 rb w2 ?c5 ?c6 ?_))
          case c0 => exact HROW.out
          case c1 => exact (Nat.min_eq_left (by omega)).symm
          case c2 => exact fun _ => ⟨_, rfl, fun j hj => by rw [addr_add, Nat.add_comm]; exact HROW.out.cell (by omega)⟩
          case c3 => omega
          case c4 => exact fun _ => rfl
          case c5 => exact Below.refl _ _
          case c6 => exact Nat.le_refl _
          intro w3 hrow3 hbel3
          have hrow4 : w3.rowIs rb 3 n (fun i => fv (if i < n - 1 then hi Rl (i + 1) else hi Rl i)) := hrow3.out.congr fun i _ => by
            by_cases h : i < n - 1
            · rw [if_pos h, if_pos (by omega)]
            · rw [if_neg h, if_neg (by omega)]
          clear hrow3
          have f1 := hrow4.frozen (n - 1)
          have g1 := hrow4.cell (i := n - 1) (by omega)
          have hrow5 := hrow4.set (n - 1) (.int .i64 0)
          have hrow6 : (w3.setCell ⟨rb, n - 1, none⟩ (.int .i64 0)).rowIs rb 3 n (fun i => fv (if i < 0 then hi Rl (i + 1) + ld * hi G (i + 1) else hi Rl (i + 1))) := hrow5.congr fun i hin => by
            rw [if_neg (Nat.not_lt_zero i)]
            by_cases h : i = n - 1
            · rw [if_pos h, hi_bd Rl (i + 1) (by rw [HRN.out]; omega)]; rfl
            · rw [if_neg h, if_pos (by omega)]
          have hbel6 : Below w1.heap.size w1 (w3.setCell ⟨rb, n - 1, none⟩ (.int .i64 0)) := (HBEL.out.trans (hbel3.mono (by rw [HRB.out]; exact Nat.le_refl _))).setCell (show w1.heap.size ≤ rb by rw [HRB.out]; exact Nat.le_refl _) _
          have e1 : ((n : Int) - 1).toNat = n - 1 := by omega
          have e2 : (0 : Int) ≤ (n : Int) - 1 := by omega
          have e3 : (n : Int) - 1 < (n : Int) := by omega
          have ROW6 := Lib.hid hrow6; clear hrow4 hrow5 hrow6
          have BEL6 := Lib.hid hbel6; clear hbel6 hbel3 HROW
          go_wp2_with fail
          clear e1 e2 e3 f1 g1
          go_loopw [70] (fun s70 wr => ∃ j : Nat, j ≤ n ∧ s70 = .int .i64 j ∧ wr.rowIs rb 3 n (fun i => fv (if i < j then hi Rl (i + 1) + ld * hi G (i + 1) else hi Rl (i + 1))) ∧ Below w1.heap.size w1 wr) (fun s70 _ => n - (intOf s70).toNat)
          case atStart => exact ⟨0, Nat.zero_le _, rfl, ROW6.out, BEL6.out⟩
          case round =>
            clear ROW6 BEL6
            obtain ⟨j, hj, rfl, hrow, hbel⟩ := hrel
            obtain ⟨w4, rfl⟩ : ∃ w4 : World, w4 = wr := ⟨_, rfl⟩
            by_cases hjn : j < n
            · have c1 := hrow.cell hjn
              rw [if_neg (Nat.lt_irrefl j)] at c1
              have c2 := (hbel.cell (p := ⟨g, j + 1, none⟩) (show g < w1.heap.size by rw [HRB.out]; exact hgb)).trans (HAT.out (j + 1) (by rw [HGL.out]; omega))
              have f1 := hrow.frozen j
              have st := (hrow.set j (fv (hi Rl (j + 1) + ld * hi G (j + 1)))).congr (g := fun i => fv (if i < j + 1 then hi Rl (i + 1) + ld * hi G (i + 1) else hi Rl (i + 1))) fun i _ => by
                by_cases h1 : i = j
                · rw [if_pos h1, h1, if_pos (Nat.lt_succ_self j)]
                · by_cases h2 : i < j
                  · rw [if_neg h1, if_pos h2, if_pos (by omega)]
                  · rw [if_neg h1, if_neg h2, if_neg (by omega)]
              have bs := hbel.setCell (p := ⟨rb, j, none⟩) (show w1.heap.size ≤ rb by rw [HRB.out]; exact Nat.le_refl _) (fv (hi Rl (j + 1) + ld * hi G (j + 1)))
              have ST := Lib.hid (And.intro st bs); clear st bs hrow hbel
              have e1 : ((j : Int) + 1).toNat = j + 1 := by omega
              have e2 : (0 : Int) ≤ (j : Int) + 1 := by omega
              have e3 : (j : Int) + 1 < (m : Int) := by have := HM.out; omega
              generalize hi Rl (j + 1) = A at c1 ST
              generalize hi G (j + 1) = B at c2 ST
              go_wp2_with fail
              refine wp_region_quiet_tail 13 (by kernel_rfl) (by kernel_rfl) ?_
              simp only [List.take_succ_cons, List.take_zero, List.drop_succ_cons, List.drop_zero]
              repeat (first | go_big_quiet_step ((go_at_call 49; refine (timesF _ _ _).mono ?_; rintro e w' ⟨rfl, rfl⟩; exact ⟨rfl, _, rfl⟩)) | quiet_step ((go_at_call 49; refine (timesF _ _ _).mono ?_; rintro e w' ⟨rfl, rfl⟩; exact ⟨rfl, _, rfl⟩)))
              refine wpQuiet_nil ?_
              intro _ hw1q
              obtain ⟨nq, hw2q⟩ := hw1q
              subst hw2q
              go_wp2
              go_roundw
              case rel => exact ⟨j + 1, hjn, by go_num, by rw [xor_f]; exact ST.out.1, by rw [xor_f]; exact ST.out.2.trans (below_dn _ _ _)⟩
              case measure => simp [intOf]; omega
            · obtain rfl : n = j := by omega
              have h9 : w4.rowIs rb 3 n (fun i => fv (hi (lfs G n Rl d) i)) := hrow.congr fun i hin => by
                rw [if_pos hin]; unfold lfs; rw [hi_map _ _ _ hin, HLD.out]
              have H9 := Lib.hid (And.intro h9 hbel); clear h9 hrow hbel
              go_wp2
              go_roundw
              case rel => exact ⟨t + 1, _, htD, by go_num, HNX.out.symm, H9.out.1, H9.out.2⟩
              case measure => simp [intOf]; omega
        · obtain rfl : D = t := by omega
          have hfin : Rl = chk data n := by rw [hRl, List.take_of_length_le (by rw [HD.out]; exact Nat.le_refl _), HCHK.out]
          have hlen : (chk data n).length = n := by unfold chk; exact lfr_len _ _ _
          rw [hfin] at hrow
          have ho := OwnV.ofRow hrow (by omega) w1.heap.size (by rw [HRB.out]; exact Nat.le_refl _)
          have hl : (List.range n).map (fun i => fv (hi (chk data n) i)) = (vs (chk data n)).map num := by
            refine List.ext_getElem? fun i => ?_
            by_cases h : i < n
            · rw [vs_get _ i (by rw [hlen]; exact h), List.getElem?_map, List.getElem?_range h]; rfl
            · rw [List.getElem?_eq_none (by simpa using h), List.getElem?_eq_none (by simpa [hlen] using h)]
          rw [hl] at ho
          have HO := Lib.hid ho
          have HB := Lib.hid (BW.out.trans (hbel.mono BW.out.size))
          clear ho hl hlen hfin hRl hrow hbel
          go_wp2
          go_ret
          exact ⟨_, rfl, HO.out.base BW.out.size, HB.out⟩
end Go.Proofs.YtcnallabiffemaaGreatDoor
namespace Zx

/-- sextets, bit by bit: c bits wait, with the value r -/
def sxs : Nat → Nat → List Nat → List Nat
  | c, r, [] => if c = 0 then [] else [r * 2 ^ (8 - c) % 256]
  | c, r, x :: l => if c = 0 then sxs 6 x l else ((r * 64 + x) / 2 ^ (c - 2)) :: sxs (c - 2) ((r * 64 + x) % 2 ^ (c - 2)) l
theorem sxs0 (r x : Nat) (l : List Nat) : sxs 0 r (x :: l) = sxs 6 x l := rfl
theorem sxs2 (r x : Nat) (l : List Nat) : sxs 2 r (x :: l) = (r * 64 + x) :: sxs 0 0 l := by
  rw [sxs, if_neg (by decide)]
  simp only [Nat.sub_self, Nat.pow_zero, Nat.div_one, Nat.mod_one]
theorem sxs4 (r x : Nat) (l : List Nat) : sxs 4 r (x :: l) = ((r * 64 + x) / 4) :: sxs 2 ((r * 64 + x) % 4) l := by rw [sxs, if_neg (by decide)]
theorem sxs6 (r x : Nat) (l : List Nat) : sxs 6 r (x :: l) = ((r * 64 + x) / 16) :: sxs 4 ((r * 64 + x) % 16) l := by rw [sxs, if_neg (by decide)]
theorem sxs_ecw : ∀ l : List Nat, (∀ x ∈ l, x < 64) → sxs 0 0 l = ecw l
  | a :: b :: c :: d :: l, h => by
    have ha := h a (by simp)
    have hb := h b (by simp)
    have hc := h c (by simp)
    have hd := h d (by simp)
    rw [sxs0, sxs6, sxs4, sxs2, sxs_ecw l (fun x hx => h x (by simp [hx])), ecw]
    congr 1
    · omega
    · congr 1
      · omega
      · congr 1; omega
  | [a, b, c], h => by
    have ha := h a (by simp)
    have hb := h b (by simp)
    have hc := h c (by simp)
    rw [sxs0, sxs6, sxs4, sxs, if_neg (by decide), ecw]
    congr 1
    · omega
    · congr 1
      · omega
      · congr 1; simp only [show (2 : Nat) ^ (8 - 2) = 64 from rfl]; omega
  | [a, b], h => by
    have ha := h a (by simp)
    have hb := h b (by simp)
    rw [sxs0, sxs6, sxs, if_neg (by decide), ecw]
    congr 1
    · omega
    · congr 1; simp only [show (2 : Nat) ^ (8 - 4) = 16 from rfl]; omega
  | [a], h => by
    have ha := h a (by simp)
    rw [sxs0, sxs, if_neg (by decide), ecw]
    congr 1; simp only [show (2 : Nat) ^ (8 - 6) = 4 from rfl]; omega
  | [], _ => rfl
end Zx
namespace Go.Proofs.YtcnallabiffemaaGreatDoor
open Go.RowKit (wrap32 wrap64 intOf Hid Below)
open Zx

theorem and255i (n : Int) : bits .and .i64 n 255 = n % 256 := by
  have h127 : (BitVec.ofInt 64 255).toNat = 2 ^ 8 - 1 := by decide
  have key : (BitVec.ofInt 64 n &&& BitVec.ofInt 64 255).toNat = (n % ((2 ^ 64 : Nat) : Int)).toNat % 2 ^ 8 := by
    rw [BitVec.toNat_and, BitVec.toNat_ofInt, h127, Nat.and_two_pow_sub_one_eq_mod]
  show IntKind.i64.wrap ((BitVec.ofInt 64 n &&& BitVec.ofInt 64 255).toNat : Nat) = n % 256
  rw [key, IntKind.wrap_i64]
  omega
theorem or6i (m x : Int) (hm : m % 64 = 0) (h1 : -9223372036854775808 ≤ m) (h2 : m < 9223372036854775808) (hx : 0 ≤ x ∧ x < 64) : bits .or .i64 m x = m + x := by
  have key : (BitVec.ofInt 64 m ||| BitVec.ofInt 64 x).toNat = (m % ((2 ^ 64 : Nat) : Int)).toNat + x.toNat := by
    rw [BitVec.toNat_or, BitVec.toNat_ofInt, BitVec.toNat_ofInt]
    obtain ⟨a, ha⟩ : ∃ a : Nat, (m % ((2 ^ 64 : Nat) : Int)).toNat = 2 ^ 6 * a := ⟨(m % ((2 ^ 64 : Nat) : Int)).toNat / 64, by omega⟩
    have hb : (x % ((2 ^ 64 : Nat) : Int)).toNat = x.toNat := by omega
    rw [ha, hb]
    exact (Nat.two_pow_add_eq_or_of_lt (by omega) a).symm
  show IntKind.i64.wrap ((BitVec.ofInt 64 m ||| BitVec.ofInt 64 x).toNat : Nat) = m + x
  rw [key, IntKind.wrap_i64]
  omega
/-- one more sextet: what is left of the bits -/
theorem sx_next (B x : Int) (hx : 0 ≤ x ∧ x < 64) : ∃ B' : Int, bits .or .i64 (wrap64 (B * 64)) x = B' ∧ B' % 64 = x ∧ (∀ r : Int, B % 4 = r → B' % 256 = r * 64 + x) ∧ (∀ r : Int, B % 16 = r → B' % 1024 = r * 64 + x) ∧ (∀ r : Int, B % 64 = r → B' % 4096 = r * 64 + x) := by
  have hw : wrap64 (B * 64) % 64 = 0 ∧ -9223372036854775808 ≤ wrap64 (B * 64) ∧ wrap64 (B * 64) < 9223372036854775808 ∧ (wrap64 (B * 64) - B * 64) % 4096 = 0 := by
    unfold wrap64; omega
  generalize wrap64 (B * 64) = m at hw ⊢
  refine ⟨m + x, or6i m x hw.1 hw.2.1 hw.2.2.1 hx, by omega, fun r hr => by omega, fun r hr => by omega, fun r hr => by omega⟩
end Go.Proofs.YtcnallabiffemaaGreatDoor
