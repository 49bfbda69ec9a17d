import Derived.Test.YtcnallabiffemaaGreatDoorM12
import Derived.Test.YtcnallabiffemaaGreatDoorM15
import Derived.Test.YtcnallabiffemaaGreatDoorM16
import Derived.Test.YtcnallabiffemaaGreatDoorM32
import Derived.Test.YtcnallabiffemaaGreatDoorM33
import Derived.Test.YtcnallabiffemaaGreatDoorM34
import Derived.Test.YtcnallabiffemaaGreatDoorP10
import Derived.Test.YtcnallabiffemaaGreatDoorP12
/- Part of the proof that a Data Matrix symbol of a text, damaged at most to half of its check codewords in each block, is decoded to the text (FnDecode): texts D1 D2 Y6 Y7 Y8. -/
set_option linter.unusedVariables false
set_option linter.unusedSimpArgs false
namespace Go.Proofs.YtcnallabiffemaaGreatDoor
open Zx

theorem okT_at : ∀ i, i < 29 → okT (symAt i).R (symAt i).C = true
  | 0, _ => okT_8_8 | 1, _ => okT_10_10 | 2, _ => okT_12_12 | 3, _ => okT_14_14 | 4, _ => okT_16_16 | 5, _ => okT_18_18 | 6, _ => okT_20_20 | 7, _ => okT_22_22 | 8, _ => okT_24_24
  | 9, _ => okT_28_28 | 10, _ => okT_32_32 | 11, _ => okT_36_36 | 12, _ => okT_40_40 | 13, _ => okT_44_44 | 14, _ => okT_48_48 | 15, _ => okT_56_56 | 16, _ => okT_64_64 | 17, _ => okT_72_72
  | 18, _ => okT_80_80 | 19, _ => okT_88_88 | 20, _ => okT_96_96 | 21, _ => okT_108_108 | 22, _ => okT_120_120
  | 23, _ => okT_6_16 | 24, _ => okT_6_28 | 25, _ => okT_10_24 | 26, _ => okT_10_32 | 27, _ => okT_14_32 | 28, _ => okT_14_44
  | i + 29, h => absurd h (by omega)

/-- the numbers behind the walk: where the corner is free, two modules are light -/
def finG (R C : Nat) (g : Nat → Int) : Nat → Int := fun i => if 0 ≤ g (R * C - 1) then g i else if i = R * C - 2 ∨ i = R * C - C - 1 then -2 else g i
structure FinG (R C : Nat) (g : Nat → Int) : Prop where
  at_ : ∀ (k j : Nat) (sh : Shp) (p : Pl), (layN R C)[k]? = some sh → sh[j]? = some p → g (p.1.toNat * C + p.2.toNat) = 8 * k + j ∧ 0 ≤ p.1 ∧ p.1.toNat < R ∧ 0 ≤ p.2 ∧ p.2.toNat < C
  bd : ∀ i, -2 ≤ g i ∧ g i < 8 * (layN R C).length

theorem fin_of {R C : Nat} {g : Nat → Int} {V : Nat} (hl : Laid R C g V (layN R C)) (ht : okT R C = true) (hR : 2 ≤ R) (hC : 2 ≤ C) : FinG R C (finG R C g) := by
  have hd : (-2 : Int) < 0 := by decide
  refine ⟨fun k j sh p hk hj => ?_, fun i => ?_⟩
  · obtain ⟨h1, h2, h3⟩ := hl.at_ k j sh p hk hj
    have hin := of_decide_eq_true h3
    refine ⟨?_, by omega, by omega, by omega, by omega⟩
    rw [ix_nat (by omega) (by omega)] at h1
    unfold finG
    obtain ⟨R', rfl⟩ : ∃ r, R = r + 2 := ⟨R - 2, by omega⟩
    obtain ⟨C', rfl⟩ : ∃ c, C = c + 2 := ⟨C - 2, by omega⟩
    have e1 : (R' + 2) * (C' + 2) - 1 = (R' + 1) * (C' + 2) + (C' + 1) := by rw [Nat.add_mul R' 2, Nat.add_mul R' 1]; omega
    have e2 : (R' + 2) * (C' + 2) - 2 = (R' + 1) * (C' + 2) + C' := by rw [Nat.add_mul R' 2, Nat.add_mul R' 1]; omega
    have e3 : (R' + 2) * (C' + 2) - (C' + 2) - 1 = R' * (C' + 2) + (C' + 1) := by rw [Nat.add_mul R' 2]; omega
    unfold okT at ht
    rw [Bool.or_eq_true] at ht
    rcases ht with ht | ht
    · rw [List.any_eq_true] at ht
      obtain ⟨sh2, hm, ht⟩ := ht
      rw [List.any_eq_true] at ht
      obtain ⟨p2, hm2, ht⟩ := ht
      obtain ⟨k2, hk2⟩ := List.mem_iff_getElem?.1 hm
      obtain ⟨j2, hj2⟩ := List.mem_iff_getElem?.1 hm2
      have hp2 : p2 = (((R' + 2 : Nat) : Int) - 1, ((C' + 2 : Nat) : Int) - 1) := by simpa using ht
      have h5 := (hl.at_ k2 j2 sh2 p2 hk2 hj2).1
      rw [ix_nat (by rw [hp2]; simp; omega) (by rw [hp2]; simp; omega), hp2] at h5
      simp only at h5
      rw [show ((((R' + 2 : Nat) : Int) - 1).toNat) = R' + 1 by omega, show ((((C' + 2 : Nat) : Int) - 1).toNat) = C' + 1 by omega] at h5
      rw [if_pos (by rw [e1, h5]; omega)]
      exact h1
    · split
      · exact h1
      · rw [List.all_eq_true] at ht
        have ht2 := ht sh (List.mem_of_getElem? hk)
        rw [List.all_eq_true] at ht2
        have ht3 := ht2 p (List.mem_of_getElem? hj)
        simp only [Bool.and_eq_true, Bool.not_eq_true', beq_eq_false_iff_ne, ne_eq] at ht3
        rw [if_neg]
        · exact h1
        · rintro (h6 | h6)
          · rw [e2] at h6
            have := ix_inj (C := C' + 2) (by omega) (by omega) h6
            exact ht3.1 (Prod.ext (by show p.1 = _; omega) (by show p.2 = _; omega))
          · rw [e3] at h6
            have := ix_inj (C := C' + 2) (by omega) (by omega) h6
            exact ht3.2 (Prod.ext (by show p.1 = _; omega) (by show p.2 = _; omega))
  · have := hl.bd i
    unfold finG
    repeat' split
    all_goals omega
end Go.Proofs.YtcnallabiffemaaGreatDoor
namespace Zx

/-- the reference's walk under way: phase, place, what is taken, what is to come, what is done -/
structure PW (R C : Nat) (n ph : Nat) (row col : Int) (V : Nat) (L done : List Shp) (g : Nat → Int) : Prop where
  run : runS R C n ⟨ph, row, col, V⟩ L = true
  laid : Laid R C g V done
  h8 : ∀ sh ∈ L, sh.length = 8
  bnd : -10 - 5 * (50000 - (n : Int)) ≤ row ∧ row ≤ 10 + 5 * (50000 - (n : Int)) ∧ -10 - 5 * (50000 - (n : Int)) ≤ col ∧ col ≤ 10 + 5 * (50000 - (n : Int))
  fuel : n ≤ 50000

theorem take8_in {R C : Int} : ∀ (s : List Pl) (V V' : Nat), take8 R C s V = some V' → ∀ (j : Nat) (p : Pl), s[j]? = some p → inR R C p = true
  | [], _, _, _, j, p, h => by simp at h
  | a :: s, V, V', h, j, p, hj => by
    unfold take8 at h
    split at h
    · rename_i h1
      have h1' := (Bool.and_eq_true _ _ ▸ h1).1
      cases j with
      | zero => simp at hj; rw [← hj]; exact h1'
      | succ j => exact take8_in s _ _ h j p (by simpa using hj)
    · cases h

variable {R C n : Nat} {row col : Int} {V : Nat} {L done : List Shp} {g : Nat → Int}

theorem PW.pos {ph : Nat} (h : PW R C n ph row col V L done g) : ∃ m, n = m + 1 := by
  have := h.run
  cases n with
  | zero => unfold runS at this; cases this
  | succ m => exact ⟨m, rfl⟩

theorem PW.lay {m ph : Nat} {row' col' : Int} {V' : Nat} {sh : Shp} {L' : List Shp} (hL : L = sh :: L') (hl : Laid R C g V done) (h8 : ∀ s ∈ L, s.length = 8) (ht : take8 R C sh V = some V') (hr : runS R C m ⟨ph, row', col', V'⟩ L' = true)
    (hb : -10 - 5 * (50000 - (m : Int)) ≤ row' ∧ row' ≤ 10 + 5 * (50000 - (m : Int)) ∧ -10 - 5 * (50000 - (m : Int)) ≤ col' ∧ col' ≤ 10 + 5 * (50000 - (m : Int))) (hf : m ≤ 50000) :
    PW R C m ph row' col' V' L' (done ++ [sh]) (putB C g sh (8 * done.length)) := by
  subst hL
  exact ⟨hr, hl.next (h8 sh (by simp)) ht, fun s hs => h8 s (by simp [hs]), hb, hf⟩

theorem PW.head0 (h : PW R C n 0 row col V L done g) : (¬ (row < R ∨ col < C) ∧ L = []) ∨ ((row < R ∨ col < C) ∧ ∃ m, n = m + 1 ∧
    ((corner R C row col = none ∧ PW R C m 1 row col V L done g) ∨
      ∃ sh, corner R C row col = some sh ∧ (∀ (j : Nat) (p : Pl), sh[j]? = some p → inR R C p = true) ∧ ∃ V' L', L = sh :: L' ∧ PW R C m 1 row col V' L' (done ++ [sh]) (putB C g sh (8 * done.length)))) := by
  obtain ⟨m, rfl⟩ := h.pos
  have hr := h.run
  have hb := h.bnd
  have hf := h.fuel
  unfold runS at hr
  simp only at hr
  split at hr
  · rename_i hc
    refine .inr ⟨hc, m, rfl, ?_⟩
    split at hr
    · rename_i hn
      exact .inl ⟨hn, hr, h.laid, h.h8, by omega, by omega⟩
    · rename_i sh hs
      split at hr
      · rename_i V' sh' L' ht
        rw [Bool.and_eq_true] at hr
        have he : sh = sh' := by simpa using hr.1
        subst he
        exact .inr ⟨sh, hs, take8_in _ _ _ ht, V', L', rfl, PW.lay rfl h.laid h.h8 ht hr.2 (by omega) (by omega)⟩
      · cases hr
  · rename_i hc
    rw [Bool.and_eq_true] at hr
    exact .inl ⟨hc, by simpa using hr.1⟩

theorem PW.step1 (h : PW R C n 1 row col V L done g) (hc : row ≥ 0 ∧ col < C) : ∃ m, n = m + 1 ∧
    ((¬ (row < R ∧ col ≥ 0 ∧ V.testBit (ix C (row, col)) = false) ∧ PW R C m 1 (row - 2) (col + 2) V L done g) ∨
      ((row < R ∧ col ≥ 0 ∧ V.testBit (ix C (row, col)) = false) ∧ (∀ (j : Nat) (p : Pl), (utahS R C row col)[j]? = some p → inR R C p = true) ∧ ∃ V' L', L = utahS R C row col :: L' ∧ PW R C m 1 (row - 2) (col + 2) V' L' (done ++ [utahS R C row col]) (putB C g (utahS R C row col) (8 * done.length)))) := by
  obtain ⟨m, rfl⟩ := h.pos
  have hr := h.run
  have hb := h.bnd
  have hf := h.fuel
  unfold runS at hr
  simp only at hr
  rw [if_pos hc] at hr
  refine ⟨m, rfl, ?_⟩
  split at hr
  · rename_i hc2
    split at hr
    · rename_i V' sh' L' ht
      rw [Bool.and_eq_true] at hr
      have he : utahS R C row col = sh' := by simpa using hr.1
      subst he
      exact .inr ⟨hc2, take8_in _ _ _ ht, V', L', rfl, PW.lay rfl h.laid h.h8 ht hr.2 (by omega) (by omega)⟩
    · cases hr
  · rename_i hc2
    exact .inl ⟨hc2, hr, h.laid, h.h8, by omega, by omega⟩
theorem PW.leave1 (h : PW R C n 1 row col V L done g) (hc : ¬ (row ≥ 0 ∧ col < C)) : ∃ m, n = m + 1 ∧ PW R C m 2 (row + 1) (col + 3) V L done g := by
  obtain ⟨m, rfl⟩ := h.pos
  have hr := h.run
  have hb := h.bnd
  have hf := h.fuel
  unfold runS at hr
  simp only at hr
  rw [if_neg hc] at hr
  exact ⟨m, rfl, hr, h.laid, h.h8, by omega, by omega⟩

theorem PW.step2 (h : PW R C n 2 row col V L done g) (hc : row < R ∧ col ≥ 0) : ∃ m, n = m + 1 ∧
    ((¬ (row ≥ 0 ∧ col < C ∧ V.testBit (ix C (row, col)) = false) ∧ PW R C m 2 (row + 2) (col - 2) V L done g) ∨
      ((row ≥ 0 ∧ col < C ∧ V.testBit (ix C (row, col)) = false) ∧ (∀ (j : Nat) (p : Pl), (utahS R C row col)[j]? = some p → inR R C p = true) ∧ ∃ V' L', L = utahS R C row col :: L' ∧ PW R C m 2 (row + 2) (col - 2) V' L' (done ++ [utahS R C row col]) (putB C g (utahS R C row col) (8 * done.length)))) := by
  obtain ⟨m, rfl⟩ := h.pos
  have hr := h.run
  have hb := h.bnd
  have hf := h.fuel
  unfold runS at hr
  simp only at hr
  rw [if_pos hc] at hr
  refine ⟨m, rfl, ?_⟩
  split at hr
  · rename_i hc2
    split at hr
    · rename_i V' sh' L' ht
      rw [Bool.and_eq_true] at hr
      have he : utahS R C row col = sh' := by simpa using hr.1
      subst he
      exact .inr ⟨hc2, take8_in _ _ _ ht, V', L', rfl, PW.lay rfl h.laid h.h8 ht hr.2 (by omega) (by omega)⟩
    · cases hr
  · rename_i hc2
    exact .inl ⟨hc2, hr, h.laid, h.h8, by omega, by omega⟩
theorem PW.leave2 (h : PW R C n 2 row col V L done g) (hc : ¬ (row < R ∧ col ≥ 0)) : ∃ m, n = m + 1 ∧ PW R C m 0 (row + 3) (col + 1) V L done g := by
  obtain ⟨m, rfl⟩ := h.pos
  have hr := h.run
  have hb := h.bnd
  have hf := h.fuel
  unfold runS at hr
  simp only at hr
  rw [if_neg hc] at hr
  exact ⟨m, rfl, hr, h.laid, h.h8, by omega, by omega⟩

theorem PW.free {ph : Nat} (h : PW R C n ph row col V L done g) (i : Nat) : (V.testBit i = false) ↔ g i < 0 := by
  have := h.laid.st i
  cases hv : V.testBit i
  · rw [hv] at this
    simp only [Bool.false_eq_true, false_iff] at this
    simp; omega
  · have := this.1 hv
    simp; omega
end Zx
namespace Go.Proofs.YtcnallabiffemaaGreatDoor
open Go.RowKit (wrap32 wrap64 intOf Hid Below)
open Zx

/-- the numbers that a size's placement has, all told -/
structure SymLay (s : Sym) : Prop where
  fine : SymFine s
  ok : okS s.R s.C = true
  okt : okT s.R s.C = true
  len : (layN s.R s.C).length = s.data + s.check
  bd : 6 ≤ s.R ∧ s.R ≤ 120 ∧ 6 ≤ s.C ∧ s.C ≤ 120
theorem symBd : ∀ i, i < 29 → 6 ≤ (symAt i).R ∧ (symAt i).R ≤ 120 ∧ 6 ≤ (symAt i).C ∧ (symAt i).C ≤ 120 := by decide +kernel
theorem symLay (i : Nat) (hi : i < 29) : SymLay (symAt i) := ⟨symFine i hi, (lays_at i hi).2.1, okT_at i hi, (lays_at i hi).2.2, symBd i hi⟩

def PcTo (w : World) (s : Sym) (e : Ending) (w' : World) : Prop :=
  ∃ (b : Nat) (g : Nat → Int), e = .returned (.tuple #[.slice (some ⟨b, 0, none⟩) (s.R * s.C) (s.R * s.C), num s.R, num s.C]) ∧ w'.rowIs b 3 (s.R * s.C) (fun i => .int .i64 (g i)) ∧ FinG s.R s.C g ∧ w.heap.size ≤ b ∧ Below w.heap.size w w'

theorem But.belowB {w w0 w' : World} {b : Nat} (h0 : Below w0.heap.size w0 w) (hb : w0.heap.size ≤ b) (h : But (· = b) w w') : Below w0.heap.size w0 w' :=
  h0.trans (h.below h0.size fun k hk e => by omega)

/-- a number is laid -/
theorem Plc.put {w : World} {p b R C : Nat} {g : Nat → Int} (h : Plc w p b R C g) (k : Nat) (v : Int) : Plc (w.setCell ⟨b, k, none⟩ (.int .i64 v)) p b R C (fun i => if i = k then v else g i) ∧ But (· = b) w (w.setCell ⟨b, k, none⟩ (.int .i64 v)) := by
  have hb : But (· = b) w (w.setCell ⟨b, k, none⟩ (.int .i64 v)) := (But.refl (· = b) w).thenSet (a := ⟨b, k, none⟩) (.inl rfl) _
  refine ⟨⟨(hb.cell (p := ⟨p, 0, none⟩) h.lt h.ne).trans h.c0, (hb.cell (p := ⟨p, 1, none⟩) h.lt h.ne).trans h.c1, (hb.cell (p := ⟨p, 2, none⟩) h.lt h.ne).trans h.c2, (h.row.set k _).congr fun i _ => ?_, Nat.lt_of_lt_of_le h.lt hb.size, h.ne, h.bd⟩, hb⟩
  show (if i = k then Value.int .i64 v else .int .i64 (g i)) = .int .i64 (if i = k then v else g i)
  split <;> rfl
/-- the reference's walk, in memory -/
structure PA (w : World) (p b R C n ph : Nat) (row col : Int) (k : Nat) (wr : World) : Prop where
  ex : ∃ (V : Nat) (L done : List Shp) (g : Nat → Int), PW R C n ph row col V L done g ∧ done ++ L = layN R C ∧ k = done.length ∧ Plc wr p b R C g ∧ Below w.heap.size w wr

set_option maxRecDepth 100000 in
set_option maxHeartbeats 8000000 in
theorem placedC (w : World) (s : Sym) (hs : SymLay s) : Calls Tryz.prog 34 #[sv s] w (PcTo w s) := by
  have ic := fun w' => innerC w' s hs.fine
  have hbd := hs.bd
  have hll : (layN s.R s.C).length ≤ 1800 := by rw [hs.len]; have := hs.fine.dc; omega
  have hok := hs.ok
  have hft := fun g V => fin_of (g := g) (V := V) (R := s.R) (C := s.C)
  have hokt := hs.okt
  have hl8 := lay_len s.R s.C
  unfold sv at ic ⊢
  unfold PcTo
  obtain ⟨R, hR⟩ : ∃ R, s.R = R := ⟨_, rfl⟩
  obtain ⟨C, hC⟩ : ∃ C, s.C = C := ⟨_, rfl⟩
  obtain ⟨N, hN⟩ : ∃ N, R * C = N := ⟨_, rfl⟩
  simp only [hR, hC, hN] at ic hbd hll hok hokt hft hl8 ⊢
  have hNl : N ≤ 14400 := by rw [← hN]; exact Nat.mul_le_mul hbd.2.1 hbd.2.2.2
  have hNp : 36 ≤ N := by rw [← hN]; exact Nat.mul_le_mul hbd.1 hbd.2.2.1
  have m1 : (R : Int) * (C : Int) = (N : Int) := by rw [← hN]; simp
  have HN := Lib.hid hN; clear hN hR hC
  have hmk := run_make_row' (P := Tryz.prog) 22 3 (.int .i64 0) 8 Tryz.underlying22 info3 rfl .i64 .i64 N (by omega) (by omega)
  have HLL := Lib.hid hll; clear hll
  have HOK := Lib.hid hok; clear hok
  have HFT := Lib.hid hft; clear hft
  have HOKT := Lib.hid hokt; clear hokt
  have HL8 := Lib.hid hl8; clear hl8
  have IC := Lib.hid ic; clear ic
  have z1 : Hid (∀ o, Below w.heap.size w (w.alloc o) ∧ (w.alloc o).heap.size = w.heap.size + 1) := Lib.hid fun o => ⟨(Below.refl _ _).alloc (Nat.le_refl _) o, World.size_alloc _ _⟩
  clear hs
  go_enter Tryz.func34, Tryz.ntmps34
  go_wp2_with fail
  refine (IC.out _).mono ?_
  rintro e w2 ⟨rfl, hb2⟩
  have b2 := Lib.hid ((z1.out _).1.trans (hb2.mono (by rw [(z1.out _).2]; omega))); clear hb2
  have p0 : Hid (Plc ((w2.alloc (.cells (madeCells #[.int .i64 0] N) 3)).alloc (.cells #[num R, num C, .slice (some ⟨w2.heap.size, 0, none⟩) N N] 118)) (w2.heap.size + 1) w2.heap.size R C (fun i => if i < 0 then -1 else 0)) := Lib.hid (by
    have cn := fun j => World.cell?_alloc_new (w2.alloc (.cells (madeCells #[.int .i64 0] N) 3)) #[num R, num C, .slice (some ⟨w2.heap.size, 0, none⟩) N N] 118 j
    rw [World.size_alloc] at cn
    refine ⟨cn 0, cn 1, ?_, ?_, by rw [World.size_alloc, World.size_alloc]; omega, by omega, by omega⟩
    · rw [HN.out]; exact cn 2
    · rw [HN.out]
      exact (rowIs_below (World.rowIs_made w2 (.int .i64 0) N 3) ((Below.refl _ _).alloc (Nat.le_refl _) _) (by rw [World.size_alloc]; omega)).congr fun i _ => by rw [if_neg (Nat.not_lt_zero i)])
  have b3 : Hid (Below w.heap.size w ((w2.alloc (.cells (madeCells #[.int .i64 0] N) 3)).alloc (.cells #[num R, num C, .slice (some ⟨w2.heap.size, 0, none⟩) N N] 118))) := Lib.hid ((b2.out.alloc b2.out.size _).alloc (by rw [World.size_alloc]; have := b2.out.size; omega) _)
  have hwb := b2.out.size
  clear b2
  go_wp2_with fail
  clear hmk m1
  obtain ⟨b, hb⟩ : ∃ b, w2.heap.size = b := ⟨_, rfl⟩
  obtain ⟨p, hp⟩ : ∃ p, b + 1 = p := ⟨_, rfl⟩
  simp only [hb, hp] at p0 b3 hwb ⊢
  have HB := Lib.hid (And.intro hb hp); clear hb hp
  go_loopw [28] (fun s28 wr => ∃ k : Nat, k ≤ N ∧ s28 = .int .i64 k ∧ Plc wr p b R C (fun i => if i < k then -1 else 0) ∧ Below w.heap.size w wr) (fun s28 _ => N - (intOf s28).toNat)
  case atStart => exact ⟨0, Nat.zero_le _, rfl, p0.out, b3.out⟩
  case round =>
    clear p0 b3
    obtain ⟨k, hk, rfl, hp, hbel⟩ := hrel
    obtain ⟨w3, rfl⟩ : ∃ w3 : World, w3 = wr := ⟨_, rfl⟩
    have BEL := Lib.hid hbel; clear hbel
    by_cases hkN : k < N
    · have c2 := hp.c2
      rw [HN.out] at c2
      have gf := hp.row.frozen k
      have gc := hp.row.cell (i := k) (by rw [HN.out]; exact hkN)
      have pp := Lib.hid (hp.put k (-1))
      clear hp
      go_wp2
      go_roundw
      case rel =>
        refine ⟨k + 1, hkN, by go_num, ?_, BEL.out.trans (pp.out.2.below BEL.out.size fun j hj e => by omega)⟩
        have e : (fun i => if i = k then (-1 : Int) else if i < k then -1 else 0) = fun i => if i < k + 1 then -1 else 0 := by
          funext i
          by_cases h1 : i = k
          · rw [if_pos h1, if_pos (by omega)]
          · by_cases h2 : i < k
            · rw [if_neg h1, if_pos h2, if_pos (by omega)]
            · rw [if_neg h1, if_neg h2, if_neg (by omega)]
        rw [← e]; exact pp.out.1
      case measure => simp [intOf]; omega
    · obtain rfl : N = k := by omega
      have pa : PA w p b R C (3 * ((R : Int) * (C : Int)).toNat + 1000) 0 4 0 0 w3 := by
        refine ⟨0, layN R C, [], fun _ => -1, ⟨HOK.out, Laid.start _ _, HL8.out, ?_, ?_⟩, rfl, rfl, ?_, BEL.out⟩
        · have : ((R : Int) * (C : Int)).toNat = N := by rw [← HN.out, ← Int.natCast_mul]; rfl
          rw [this]; omega
        · have : ((R : Int) * (C : Int)).toNat = N := by rw [← HN.out, ← Int.natCast_mul]; rfl
          rw [this]; omega
        · refine ⟨hp.c0, hp.c1, hp.c2, hp.row.congr fun i hi => ?_, hp.lt, hp.ne, hp.bd⟩
          rw [HN.out] at hi
          simp only [if_pos hi]
      obtain ⟨n0, hn0⟩ : ∃ n0, 3 * ((R : Int) * (C : Int)).toNat + 1000 = n0 := ⟨_, rfl⟩
      rw [hn0] at pa
      have PA0 := Lib.hid pa; clear pa hn0 hp
      go_wp2_with fail
      go_loopg [7, 8, 9] n0 (fun gk s7 s8 s9 wr => ∃ (row col : Int) (k : Nat), s7 = .int .i64 row ∧ s8 = .int .i64 col ∧ s9 = .int .i64 k ∧ PA w p b R C gk 0 row col k wr)
      case atStart => exact ⟨4, 0, 0, rfl, rfl, rfl, PA0.out⟩
      case round =>
        clear PA0 BEL hkN
        obtain ⟨row, col, q, rfl, rfl, rfl, V, L, done, g, hpw, hdl, hq, hplc, hbel⟩ := hrel
        obtain ⟨gN, rfl⟩ : ∃ g, g = gk := ⟨_, rfl⟩
        obtain ⟨w4, rfl⟩ : ∃ w4 : World, w4 = wr := ⟨_, rfl⟩
        have hql : q ≤ 1800 := by have := congrArg List.length hdl; rw [List.length_append] at this; have := HLL.out; omega
        have hrb : -500000 ≤ row ∧ row ≤ 500000 ∧ -500000 ≤ col ∧ col ≤ 500000 := by have := hpw.bnd; have := hpw.fuel; omega
        have PWH := Lib.hid hpw; clear hpw
        have HDL := Lib.hid hdl; clear hdl
        have HQ := Lib.hid hq; clear hq
        have HPLC := Lib.hid hplc; clear hplc
        have BEL := Lib.hid hbel; clear hbel
        go_upto_region 9 with fail
        go_cut [45] from 38 to 45 (fun s wx => s = .bool (decide (row < (R : Int) ∨ col < (C : Int))) ∧ wx = w4)
        case first =>
          by_cases h1 : row < (R : Int)
          · have K0 := Lib.hid (show row < (R : Int) ∨ col < (C : Int) from .inl h1)
            go_wp2
            go_meet
            exact ⟨congrArg Value.bool (by rw [decide_eq_true K0.out]), rfl⟩
          · by_cases h2 : col < (C : Int)
            · have K0 := Lib.hid (show row < (R : Int) ∨ col < (C : Int) from .inr h2)
              go_wp2
              go_meet
              exact ⟨congrArg Value.bool (by rw [decide_eq_true K0.out]), rfl⟩
            · have K0 := Lib.hid (show ¬ (row < (R : Int) ∨ col < (C : Int)) from fun h => h.elim h1 h2)
              go_wp2
              go_meet
              exact ⟨congrArg Value.bool (by rw [decide_eq_false K0.out]), rfl⟩
        obtain ⟨rfl, hwc⟩ := hcut
        rw [hwc]; clear hwc wc
        apply_assumption
        rcases PWH.out.head0 with ⟨hstop, hL⟩ | ⟨hgo, m, hm, hcase⟩
        · rw [decide_eq_false hstop]
          subst hL
          have hdn : done = layN R C := by rw [← HDL.out, List.append_nil]
          have hlaid := PWH.out.laid
          rw [hdn] at hlaid
          have hfin := Lib.hid (HFT.out g V hlaid HOKT.out (by omega) (by omega))
          have eN : (R - 1) * C + (C - 1) = N - 1 := by
            obtain ⟨R', rfl⟩ : ∃ r, R = r + 1 := ⟨R - 1, by omega⟩
            rw [← HN.out, Nat.add_sub_cancel, Nat.add_mul]; omega
          have fc := freeC w4 p b R C (C - 1) (R - 1) g HPLC.out (by omega) (by omega)
          rw [eN, show ((R - 1 : Nat) : Int) = (R : Int) - 1 by omega, show ((C - 1 : Nat) : Int) = (C : Int) - 1 by omega] at fc
          have FC := Lib.hid fc; clear fc eN hlaid hdn hstop PWH HDL HQ
          go_wp2_with fail
          refine FC.out.mono ?_
          rintro e w5 ⟨rfl, mm, rfl⟩
          clear FC
          have c2 := HPLC.out.c2
          rw [HN.out] at c2
          by_cases hfr : g (N - 1) < 0
          · rw [decide_eq_true hfr]
            have hp5 : Plc (w4.drewN mm) p b R C g := HPLC.out.all (below_dn _ _ _)
            have hb5 : Below w.heap.size w (w4.drewN mm) := BEL.out.trans (below_dn _ _ _)
            clear c2
            generalize w4.drewN mm = w5 at hp5 hb5 ⊢
            have HB5 := Lib.hid hb5; clear hb5 HPLC BEL
            have c2 := hp5.c2
            rw [HN.out] at c2
            have m1 : (R : Int) * (C : Int) = (N : Int) := by rw [← HN.out]; simp
            have hCN : C + 2 < N := by
              have := Nat.mul_le_mul_right C hbd.1
              rw [HN.out] at this; omega
            have hrow := hp5.row
            rw [HN.out] at hrow
            have e1 : ((N : Int) - 2).toNat = N - 2 := by omega
            have e2 : ((N : Int) - (C : Int) - 1).toNat = N - C - 1 := by omega
            have e3 : (0 : Int) ≤ (N : Int) - 2 := by omega
            have e4 : (0 : Int) ≤ (N : Int) - (C : Int) - 1 := by omega
            have e5 : (N : Int) - 2 < (N : Int) := by omega
            have e6 : (N : Int) - (C : Int) - 1 < (N : Int) := by omega
            have f1 := hrow.frozen (N - 2)
            have f2 := hrow.frozen (N - C - 1)
            have g1 := hrow.cell (i := N - 2) (by omega)
            have g2 := hrow.cell (i := N - C - 1) (by omega)
            have hne : ¬ N - C - 1 = N - 2 := by omega
            have hne2 : ¬ N - 2 = N - C - 1 := by omega
            have HROW := Lib.hid hrow; clear hrow
            have HP5 := Lib.hid hp5; clear hp5
            go_wp2_with fail
            go_region
            clear c2 f1 f2 g1 g2 e1 e2 e3 e4 e5 e6 m1
            have pp1 := HP5.out.put (N - 2) (-2)
            have pp2 := pp1.1.put (N - C - 1) (-2)
            have c3 := pp2.1.c2
            rw [HN.out] at c3
            have PP := Lib.hid (And.intro pp2.1 (pp1.2.trans pp2.2)); clear pp1 pp2
            go_wp2
            go_ret3
            refine ⟨b, finG R C g, rfl, ?_, hfin.out, hwb, (HB5.out.trans (PP.out.2.below HB5.out.size fun j hj e => by omega)).trans (below_dn _ _ 1)⟩
            have := PP.out.1.row
            rw [HN.out] at this
            refine this.congr fun i _ => ?_
            unfold finG
            rw [HN.out]
            simp only [if_neg (show ¬ 0 ≤ g (N - 1) by omega)]
            by_cases h1 : i = N - C - 1
            · simp [h1]
            · by_cases h2 : i = N - 2
              · simp [h2]
              · simp [h1, h2]
          · rw [decide_eq_false hfr]
            go_wp2
            go_ret3
            refine ⟨b, finG R C g, rfl, ?_, hfin.out, hwb, BEL.out.trans (below_dn _ _ _)⟩
            have := HPLC.out.row
            rw [HN.out] at this
            exact this.congr fun i _ => by unfold finG; rw [HN.out, if_pos (by omega)]
        · rw [decide_eq_true hgo]
          have hcc : ∀ sh, corner R C row col = some sh → ∀ (j : Nat) (pl : Pl), sh[j]? = some pl → inR R C pl = true := by
            rcases hcase with ⟨h1, _⟩ | ⟨sh, h1, h2, _⟩
            · intro sh h; rw [h1] at h; cases h
            · intro sh' h; rw [h1] at h; cases h; exact h2
          have cc := cornersC w4 p b R C q row col g HPLC.out hcc hrb (by omega)
          have HCASE := Lib.hid hcase; clear hcase
          have HM := Lib.hid hm; clear hm
          clear hcc hgo
          go_wp2_with fail
          refine cc.mono ?_
          rintro e w5 ⟨hbut, hco⟩
          clear cc
          have hnew : ∃ (bo : Bool) (q' : Nat), e = .returned (.bool bo) ∧ q' = (if bo then q + 1 else q) ∧ PA w p b R C m 1 row col q' w5 := by
            have hb5 : Below w.heap.size w w5 := BEL.out.trans (hbut.below BEL.out.size fun j hj e => by omega)
            rcases HCASE.out with ⟨h1, h2⟩ | ⟨sh, h1, _, V', L', h3, h4⟩
            · rcases hco with ⟨_, h6, h7⟩ | ⟨sh', h5, _⟩
              · exact ⟨false, q, h6, rfl, V, L, done, g, h2, HDL.out, HQ.out, h7, hb5⟩
              · rw [h1] at h5; cases h5
            · rcases hco with ⟨h5, _⟩ | ⟨sh', h5, h6, h7⟩
              · rw [h1] at h5; cases h5
              · rw [h1] at h5; cases h5
                exact ⟨true, q + 1, h6, rfl, V', L', done ++ [sh], putB C g sh (8 * done.length), h4, by rw [List.append_assoc, List.singleton_append, ← h3]; exact HDL.out, by rw [List.length_append, HQ.out]; rfl, by rw [HQ.out] at h7; exact h7, hb5⟩
          clear hbut hco HCASE
          obtain ⟨bo, q', rfl, hq', hpa⟩ := hnew
          have PA1 := Lib.hid hpa; clear hpa
          have HQ' := Lib.hid hq'; clear hq'
          go_upto_if 50 with fail
          go_cut [9] from 46 to 52 (fun s9 wx => s9 = .int .i64 q' ∧ wx = w5)
          case first =>
            cases bo
            · go_wp2
              go_meet
              exact ⟨by rw [HQ'.out]; rfl, rfl⟩
            · go_wp2
              go_meet
              exact ⟨by rw [HQ'.out]; exact val_int (by simp), rfl⟩
          obtain ⟨rfl, hwc⟩ := hcut
          rw [hwc]; clear hwc wc HQ' HQ HPLC BEL PWH HDL
          apply_assumption
          go_wp2_with fail
          go_loopg [7, 8, 9] m (fun gk s7 s8 s9 wr => ∃ (row col : Int) (k : Nat), s7 = .int .i64 row ∧ s8 = .int .i64 col ∧ s9 = .int .i64 k ∧ gk ≤ m ∧ PA w p b R C gk 1 row col k wr)
          case atStart => exact ⟨_, _, _, rfl, rfl, rfl, Nat.le_refl _, PA1.out⟩
          case round =>
            clear PA1
            obtain ⟨row, col, q, rfl, rfl, rfl, hgm, V, L, done, g, hpw, hdl, hq, hplc, hbel⟩ := hrel
            obtain ⟨gM, rfl⟩ : ∃ g, g = gk := ⟨_, rfl⟩
            obtain ⟨w6, rfl⟩ : ∃ w6 : World, w6 = wr := ⟨_, rfl⟩
            have hql : q ≤ 1800 := by have := congrArg List.length hdl; rw [List.length_append] at this; have := HLL.out; omega
            have hrb : -500000 ≤ row ∧ row ≤ 500000 ∧ -500000 ≤ col ∧ col ≤ 500000 := by have := hpw.bnd; have := hpw.fuel; omega
            have PWH := Lib.hid hpw; clear hpw
            have HDL := Lib.hid hdl; clear hdl
            have HQ := Lib.hid hq; clear hq
            have HPLC := Lib.hid hplc; clear hplc
            have BEL := Lib.hid hbel; clear hbel
            have HGM := Lib.hid hgm; clear hgm
            go_upto_region 12 with fail
            go_cut [59] from 53 to 59 (fun s wx => s = .bool (decide ((0 : Int) ≤ row ∧ col < (C : Int))) ∧ wx = w6)
            case first =>
              by_cases h1 : (0 : Int) ≤ row
              · by_cases h2 : col < (C : Int)
                · have K0 := Lib.hid (show (0 : Int) ≤ row ∧ col < (C : Int) from ⟨h1, h2⟩)
                  go_wp2
                  go_meet
                  exact ⟨congrArg Value.bool (by rw [decide_eq_true K0.out]), rfl⟩
                · have K0 := Lib.hid (show ¬ ((0 : Int) ≤ row ∧ col < (C : Int)) from fun h => h2 h.2)
                  go_wp2
                  go_meet
                  exact ⟨congrArg Value.bool (by rw [decide_eq_false K0.out]), rfl⟩
              · have K0 := Lib.hid (show ¬ ((0 : Int) ≤ row ∧ col < (C : Int)) from fun h => h1 h.1)
                go_wp2
                go_meet
                exact ⟨congrArg Value.bool (by rw [decide_eq_false K0.out]), rfl⟩
            obtain ⟨rfl, hwc⟩ := hcut
            rw [hwc]; clear hwc wc
            apply_assumption
            by_cases hc : (0 : Int) ≤ row ∧ col < (C : Int)
            · rw [decide_eq_true hc]
              obtain ⟨m2, hm2, hcase⟩ := PWH.out.step1 hc
              have HM2 := Lib.hid hm2; clear hm2
              have HCASE := Lib.hid hcase; clear hcase
              go_upto_region 13 with fail
              go_cut [72] from 60 to 72 (fun s wx => s = .bool (decide (row < (R : Int) ∧ (0 : Int) ≤ col ∧ V.testBit (ix C (row, col)) = false)) ∧ ∃ mm, wx = w6.drewN mm)
              case first =>
                by_cases h1 : row < (R : Int)
                · by_cases h2 : (0 : Int) ≤ col
                  · have fc := freeC w6 p b R C col.toNat row.toNat g HPLC.out (by omega) (by omega)
                    have ey : ((row.toNat : Nat) : Int) = row := by omega
                    have ex : ((col.toNat : Nat) : Int) = col := by omega
                    have ei : ix C (row, col) = row.toNat * C + col.toNat := ix_nat (by omega) (by omega)
                    rw [ey, ex] at fc
                    have K0 : Hid (decide (row < (R : Int) ∧ (0 : Int) ≤ col ∧ V.testBit (ix C (row, col)) = false) = decide (g (row.toNat * C + col.toNat) < 0)) := Lib.hid (by
                      rw [decide_eq_decide, ei, PWH.out.free]
                      exact ⟨fun h => h.2.2, fun h => ⟨h1, h2, h⟩⟩)
                    clear ey ex ei
                    go_wp2_with fail
                    refine fc.mono ?_
                    rintro e w7 ⟨rfl, mm, rfl⟩
                    clear fc
                    go_wp2
                    go_meet
                    exact ⟨congrArg Value.bool (by rw [K0.out]), mm, rfl⟩
                  · have K0 := Lib.hid (show ¬ (row < (R : Int) ∧ (0 : Int) ≤ col ∧ V.testBit (ix C (row, col)) = false) from fun h => h2 h.2.1)
                    go_wp2
                    go_meet
                    exact ⟨congrArg Value.bool (by rw [decide_eq_false K0.out]), 0, rfl⟩
                · have K0 := Lib.hid (show ¬ (row < (R : Int) ∧ (0 : Int) ≤ col ∧ V.testBit (ix C (row, col)) = false) from fun h => h1 h.1)
                  go_wp2
                  go_meet
                  exact ⟨congrArg Value.bool (by rw [decide_eq_false K0.out]), 0, rfl⟩
              obtain ⟨rfl, mm, hwc⟩ := hcut
              rw [hwc]; clear hwc wc
              apply_assumption
              go_upto_if 72 with fail
              go_cut [9] from 60 to 79 (fun s9 wx => ∃ k : Nat, s9 = .int .i64 k ∧ PA w p b R C m2 1 (row - 2) (col + 2) k wx)
              case first =>
                have hpd : Plc (w6.drewN mm) p b R C g := HPLC.out.all (below_dn _ _ _)
                have hbd2 : Below w.heap.size w (w6.drewN mm) := BEL.out.trans (below_dn _ _ _)
                by_cases hT : (row < (R : Int) ∧ (0 : Int) ≤ col ∧ V.testBit (ix C (row, col)) = false)
                · have hk : (∀ (j : Nat) (pl : Pl), (utahS R C row col)[j]? = some pl → inR R C pl = true) ∧ ∃ V' L', L = utahS R C row col :: L' ∧ PW R C m2 1 (row - 2) (col + 2) V' L' (done ++ [utahS R C row col]) (putB C g (utahS R C row col) (8 * done.length)) := by
                    rcases HCASE.out with ⟨h, _⟩ | ⟨_, h2, h3⟩
                    · exact absurd hT h
                    · exact ⟨h2, h3⟩
                  have uc := utahC (w6.drewN mm) p b R C q row col g hpd hk.1 (by have := hT.1; have := hT.2.1; omega) (by omega)
                  have HK := Lib.hid hk.2; clear hk hpd
                  have HBD := Lib.hid hbd2; clear hbd2
                  rw [decide_eq_true hT]
                  clear hT
                  go_wp2_with fail
                  refine uc.mono ?_
                  rintro e w7 ⟨rfl, hp7, hb7⟩
                  have HP7 := Lib.hid hp7; clear hp7 uc
                  have HB7 := Lib.hid hb7; clear hb7
                  go_wp2
                  go_meet
                  obtain ⟨V', L', h3, h4⟩ := HK.out
                  exact ⟨q + 1, by go_num, V', L', done ++ [utahS R C row col], _, h4, by rw [List.append_assoc, List.singleton_append, ← h3]; exact HDL.out, by rw [List.length_append, HQ.out]; rfl, by have := HP7.out; rw [HQ.out] at this; exact this, HBD.out.trans (HB7.out.below HBD.out.size fun j hj e => by omega)⟩
                · have hk : PW R C m2 1 (row - 2) (col + 2) V L done g := by
                    rcases HCASE.out with ⟨_, h⟩ | ⟨h, _⟩
                    · exact h
                    · exact absurd h hT
                  have HK := Lib.hid hk; clear hk
                  have HPD := Lib.hid hpd; clear hpd
                  have HBD := Lib.hid hbd2; clear hbd2
                  rw [decide_eq_false hT]
                  clear hT
                  go_wp2
                  go_meet
                  exact ⟨q, rfl, V, L, done, g, HK.out, HDL.out, HQ.out, HPD.out, HBD.out⟩
              obtain ⟨k2, rfl, hpa⟩ := hcut
              obtain ⟨w7, rfl⟩ : ∃ w7 : World, w7 = wc := ⟨_, rfl⟩
              have PA2 := Lib.hid hpa; clear hpa HCASE HPLC BEL PWH HDL HQ
              apply_assumption
              go_wp2
              go_roundg m2
              case rel => exact ⟨row - 2, col + 2, k2, rfl, rfl, rfl, by have := HM2.out; have := HGM.out; omega, PA2.out⟩
              case measure => have := HM2.out; omega
            · rw [decide_eq_false hc]
              obtain ⟨m3, hm3, hpw3⟩ := PWH.out.leave1 hc
              have hpa3 : PA w p b R C m3 2 (row + 1) (col + 3) q w6 := ⟨V, L, done, g, hpw3, HDL.out, HQ.out, HPLC.out, BEL.out⟩
              have PA1 := Lib.hid hpa3; clear hpa3 hpw3 HPLC BEL PWH HDL HQ hc
              have HM3 := Lib.hid (show m3 < m by have := HGM.out; omega); clear hm3 HGM
              go_wp2_with fail
              go_loopg [7, 8, 9] m3 (fun gk s7 s8 s9 wr => ∃ (row col : Int) (k : Nat), s7 = .int .i64 row ∧ s8 = .int .i64 col ∧ s9 = .int .i64 k ∧ gk ≤ m3 ∧ PA w p b R C gk 2 row col k wr)
              case atStart => exact ⟨_, _, _, rfl, rfl, rfl, Nat.le_refl _, PA1.out⟩
              case round =>
                clear PA1
                obtain ⟨row, col, q, rfl, rfl, rfl, hgm, V, L, done, g, hpw, hdl, hq, hplc, hbel⟩ := hrel
                obtain ⟨gO, rfl⟩ : ∃ g, g = gk := ⟨_, rfl⟩
                obtain ⟨w8, rfl⟩ : ∃ w6 : World, w6 = wr := ⟨_, rfl⟩
                have hql : q ≤ 1800 := by have := congrArg List.length hdl; rw [List.length_append] at this; have := HLL.out; omega
                have hrb : -500000 ≤ row ∧ row ≤ 500000 ∧ -500000 ≤ col ∧ col ≤ 500000 := by have := hpw.bnd; have := hpw.fuel; omega
                have PWH := Lib.hid hpw; clear hpw
                have HDL := Lib.hid hdl; clear hdl
                have HQ := Lib.hid hq; clear hq
                have HPLC := Lib.hid hplc; clear hplc
                have BEL := Lib.hid hbel; clear hbel
                have HGM := Lib.hid hgm; clear hgm
                go_upto_region 18 with fail
                go_cut [94] from 88 to 94 (fun s wx => s = .bool (decide (row < (R : Int) ∧ (0 : Int) ≤ col)) ∧ wx = w8)
                case first =>
                  by_cases h1 : row < (R : Int)
                  · by_cases h2 : (0 : Int) ≤ col
                    · have K0 := Lib.hid (show row < (R : Int) ∧ (0 : Int) ≤ col from ⟨h1, h2⟩)
                      go_wp2
                      go_meet
                      exact ⟨congrArg Value.bool (by rw [decide_eq_true K0.out]), rfl⟩
                    · have K0 := Lib.hid (show ¬ (row < (R : Int) ∧ (0 : Int) ≤ col) from fun h => h2 h.2)
                      go_wp2
                      go_meet
                      exact ⟨congrArg Value.bool (by rw [decide_eq_false K0.out]), rfl⟩
                  · have K0 := Lib.hid (show ¬ (row < (R : Int) ∧ (0 : Int) ≤ col) from fun h => h1 h.1)
                    go_wp2
                    go_meet
                    exact ⟨congrArg Value.bool (by rw [decide_eq_false K0.out]), rfl⟩
                obtain ⟨rfl, hwc⟩ := hcut
                rw [hwc]; clear hwc wc
                apply_assumption
                by_cases hc : row < (R : Int) ∧ (0 : Int) ≤ col
                · rw [decide_eq_true hc]
                  obtain ⟨m4, hm2, hcase⟩ := PWH.out.step2 hc
                  have HM2 := Lib.hid hm2; clear hm2
                  have HCASE := Lib.hid hcase; clear hcase
                  go_upto_region 19 with fail
                  go_cut [107] from 95 to 107 (fun s wx => s = .bool (decide ((0 : Int) ≤ row ∧ col < (C : Int) ∧ V.testBit (ix C (row, col)) = false)) ∧ ∃ mm, wx = w8.drewN mm)
                  case first =>
                    by_cases h1 : (0 : Int) ≤ row
                    · by_cases h2 : col < (C : Int)
                      · have fc := freeC w8 p b R C col.toNat row.toNat g HPLC.out (by omega) (by omega)
                        have ey : ((row.toNat : Nat) : Int) = row := by omega
                        have ex : ((col.toNat : Nat) : Int) = col := by omega
                        have ei : ix C (row, col) = row.toNat * C + col.toNat := ix_nat (by omega) (by omega)
                        rw [ey, ex] at fc
                        have K0 : Hid (decide ((0 : Int) ≤ row ∧ col < (C : Int) ∧ V.testBit (ix C (row, col)) = false) = decide (g (row.toNat * C + col.toNat) < 0)) := Lib.hid (by
                          rw [decide_eq_decide, ei, PWH.out.free]
                          exact ⟨fun h => h.2.2, fun h => ⟨h1, h2, h⟩⟩)
                        clear ey ex ei
                        go_wp2_with fail
                        refine fc.mono ?_
                        rintro e w7 ⟨rfl, mm, rfl⟩
                        clear fc
                        go_wp2
                        go_meet
                        exact ⟨congrArg Value.bool (by rw [K0.out]), mm, rfl⟩
                      · have K0 := Lib.hid (show ¬ ((0 : Int) ≤ row ∧ col < (C : Int) ∧ V.testBit (ix C (row, col)) = false) from fun h => h2 h.2.1)
                        go_wp2
                        go_meet
                        exact ⟨congrArg Value.bool (by rw [decide_eq_false K0.out]), 0, rfl⟩
                    · have K0 := Lib.hid (show ¬ ((0 : Int) ≤ row ∧ col < (C : Int) ∧ V.testBit (ix C (row, col)) = false) from fun h => h1 h.1)
                      go_wp2
                      go_meet
                      exact ⟨congrArg Value.bool (by rw [decide_eq_false K0.out]), 0, rfl⟩
                  obtain ⟨rfl, mm, hwc⟩ := hcut
                  rw [hwc]; clear hwc wc
                  apply_assumption
                  go_upto_if 107 with fail
                  go_cut [9] from 95 to 114 (fun s9 wx => ∃ k : Nat, s9 = .int .i64 k ∧ PA w p b R C m4 2 (row + 2) (col - 2) k wx)
                  case first =>
                    have hpd : Plc (w8.drewN mm) p b R C g := HPLC.out.all (below_dn _ _ _)
                    have hbd2 : Below w.heap.size w (w8.drewN mm) := BEL.out.trans (below_dn _ _ _)
                    by_cases hT : ((0 : Int) ≤ row ∧ col < (C : Int) ∧ V.testBit (ix C (row, col)) = false)
                    · have hk : (∀ (j : Nat) (pl : Pl), (utahS R C row col)[j]? = some pl → inR R C pl = true) ∧ ∃ V' L', L = utahS R C row col :: L' ∧ PW R C m4 2 (row + 2) (col - 2) V' L' (done ++ [utahS R C row col]) (putB C g (utahS R C row col) (8 * done.length)) := by
                        rcases HCASE.out with ⟨h, _⟩ | ⟨_, h2, h3⟩
                        · exact absurd hT h
                        · exact ⟨h2, h3⟩
                      have uc := utahC (w8.drewN mm) p b R C q row col g hpd hk.1 (by have := hT.1; have := hT.2.1; omega) (by omega)
                      have HK := Lib.hid hk.2; clear hk hpd
                      have HBD := Lib.hid hbd2; clear hbd2
                      rw [decide_eq_true hT]
                      clear hT
                      go_wp2_with fail
                      refine uc.mono ?_
                      rintro e w7 ⟨rfl, hp7, hb7⟩
                      have HP7 := Lib.hid hp7; clear hp7 uc
                      have HB7 := Lib.hid hb7; clear hb7
                      go_wp2
                      go_meet
                      obtain ⟨V', L', h3, h4⟩ := HK.out
                      exact ⟨q + 1, by go_num, V', L', done ++ [utahS R C row col], _, h4, by rw [List.append_assoc, List.singleton_append, ← h3]; exact HDL.out, by rw [List.length_append, HQ.out]; rfl, by have := HP7.out; rw [HQ.out] at this; exact this, HBD.out.trans (HB7.out.below HBD.out.size fun j hj e => by omega)⟩
                    · have hk : PW R C m4 2 (row + 2) (col - 2) V L done g := by
                        rcases HCASE.out with ⟨_, h⟩ | ⟨h, _⟩
                        · exact h
                        · exact absurd h hT
                      have HK := Lib.hid hk; clear hk
                      have HPD := Lib.hid hpd; clear hpd
                      have HBD := Lib.hid hbd2; clear hbd2
                      rw [decide_eq_false hT]
                      clear hT
                      go_wp2
                      go_meet
                      exact ⟨q, rfl, V, L, done, g, HK.out, HDL.out, HQ.out, HPD.out, HBD.out⟩
                  obtain ⟨k2, rfl, hpa⟩ := hcut
                  obtain ⟨w7, rfl⟩ : ∃ w7 : World, w7 = wc := ⟨_, rfl⟩
                  have PA2 := Lib.hid hpa; clear hpa HCASE HPLC BEL PWH HDL HQ
                  apply_assumption
                  go_wp2
                  go_roundg m4
                  case rel => exact ⟨row + 2, col - 2, k2, rfl, rfl, rfl, by have := HM2.out; have := HGM.out; omega, PA2.out⟩
                  case measure => have := HM2.out; omega
                · rw [decide_eq_false hc]
                  obtain ⟨m5, hm3, hpw3⟩ := PWH.out.leave2 hc
                  have hpa3 : PA w p b R C m5 0 (row + 3) (col + 1) q w8 := ⟨V, L, done, g, hpw3, HDL.out, HQ.out, HPLC.out, BEL.out⟩
                  have PA1 := Lib.hid hpa3; clear hpa3 hpw3 HPLC BEL PWH HDL HQ hc
                  have HM5 := Lib.hid (show m5 < m3 by have := HGM.out; omega); clear hm3 HGM
                  go_wp2
                  go_roundg m5
                  case rel => exact ⟨row + 3, col + 1, q, rfl, rfl, rfl, PA1.out⟩
                  case measure => have := HM.out; have := HM3.out; have := HM5.out; omega
end Go.Proofs.YtcnallabiffemaaGreatDoor
namespace Go.Proofs.YtcnallabiffemaaGreatDoor
open Go.RowKit (wrap32 wrap64 intOf Hid Below)
open Zx

def EdTo (w : World) (e : Ending) (w' : World) : Prop := ∃ (z : Int) (b : Bool), e = .returned (.tuple #[.int .u8 z, .bool b]) ∧ 0 ≤ z ∧ z < 256 ∧ Below w.heap.size w w'

set_option maxRecDepth 100000 in
set_option maxHeartbeats 4000000 in
theorem edgeN (w : World) (a b dn ac c d e h wd row col x y : Nat)
    (f1 : (a : Int) / (dn : Int) = (h : Int)) (v1 : wrap64 (h : Int) = (h : Int)) (n1 : ¬ (dn : Int) = 0) (f2 : (b : Int) / (ac : Int) = (wd : Int)) (v2 : wrap64 (wd : Int) = (wd : Int)) (n2 : ¬ (ac : Int) = 0)
    (f3 : (row : Int) % (h : Int) = (y : Int)) (n3 : ¬ (h : Int) = 0) (f4 : (col : Int) % (wd : Int) = (x : Int)) (n4 : ¬ (wd : Int) = 0)
    (hh : h ≤ 132) (hw : wd ≤ 132) (hx : x ≤ 132) (hy : y ≤ 132) :
    Calls Tryz.prog 33 #[.agg #[num a, num b, num dn, num ac, num c, num d, num e], .int .i64 row, .int .i64 col] w (EdTo w) := by
  have z1 : Hid (∀ o m, Below w.heap.size w ((w.alloc o).drewN m)) := Lib.hid fun o m => ((Below.refl _ _).alloc (Nat.le_refl _) o).trans (below_dn _ _ _)
  have c0 : ∀ i, (w.alloc (.cells #[num a, num b, num dn, num ac, num c, num d, num e] 27)).cell? ⟨w.heap.size, i, none⟩ = (#[num a, num b, num dn, num ac, num c, num d, num e])[i]? := fun i => World.cell?_alloc_new w _ _ i
  have c00 := c0 0
  have c01 := c0 1
  have c02 := c0 2
  have c03 := c0 3
  simp only [List.getElem?_toArray, List.getElem?_cons_zero, List.getElem?_cons_succ] at c00 c01 c02 c03
  clear c0
  go_enter Tryz.func33, Tryz.ntmps33
  go_wp2_with fail
  go_quiet (fail)
  clear f1 n1 f2 n2 c00 c01 c02 c03
  go_wp2_with fail
  go_quiet (fail)
  rw [f3, f4]
  clear f3 f4 n3 n4 v1 v2
  go_wp2
  all_goals
    go_ret2
    refine ⟨_, _, rfl, ?_, ?_, z1.out _ _⟩ <;> first | decide | omega | (simp only [IntKind.wrap_u8]; omega)

theorem mod_facts (R h : Nat) (h0 : 0 < h) (hh : h ≤ 132) : (R : Int) % (h : Int) = ((R % h : Nat) : Int) ∧ (¬ (h : Int) = 0) ∧ R % h ≤ 132 :=
  ⟨by simp, fun e => Nat.lt_irrefl 0 (by rw [Int.natCast_eq_zero.1 e] at h0; exact h0), Nat.le_trans (Nat.le_of_lt (Nat.mod_lt _ h0)) hh⟩
theorem div_factsE (R d r : Nat) (h : R / d = r) (h0 : 0 < d) (hR : R ≤ 132) : (R : Int) / (d : Int) = (r : Int) ∧ wrap64 (r : Int) = (r : Int) ∧ (¬ (d : Int) = 0) ∧ r ≤ 132 := by
  have hr : r ≤ 132 := by rw [← h]; exact Nat.le_trans (Nat.div_le_self _ _) hR
  exact ⟨by rw [← h]; simp, w64n r (Nat.le_trans hr (by decide)), fun h => Nat.lt_irrefl 0 (by rw [Int.natCast_eq_zero.1 h] at h0; exact h0), hr⟩
theorem edgeC (w : World) (s : Sym) (hf : SymFine s) (row col : Nat) : Calls Tryz.prog 33 #[sv s, .int .i64 row, .int .i64 col] w (EdTo w) := by
  have hge := hf.ge
  have h5 := hf.rw_.2.2.2.2
  have f1 := div_factsE s.rows s.down (s.rr + 2) hf.hw.1 h5.2.2.1 hge.2.1
  have f2 := div_factsE s.cols s.across (s.rc + 2) hf.hw.2 h5.2.2.2 hge.2.2.2.2.1
  have f3 := mod_facts row (s.rr + 2) (Nat.succ_pos _) f1.2.2.2
  have f4 := mod_facts col (s.rc + 2) (Nat.succ_pos _) f2.2.2.2
  exact edgeN w _ _ _ _ _ _ _ (s.rr + 2) (s.rc + 2) row col _ _ f1.1 f1.2.1 f1.2.2.1 f2.1 f2.2.1 f2.2.2.1 f3.1 f3.2.1 f4.1 f4.2.1 f1.2.2.2 f2.2.2.2 f4.2.2 f3.2.2
end Go.Proofs.YtcnallabiffemaaGreatDoor
namespace Go.Proofs.YtcnallabiffemaaGreatDoor
open Go.RowKit (wrap32 wrap64 intOf Hid Below)
open Zx

/-- a matrix under way: k rows stand -/
structure MxK (w wr : World) (m : Nat) (r : Nat → Nat) (H W k : Nat) (g : Nat → Nat → Nat) : Prop where
  top : wr.rowIs m 32 H (fun y => if y < k then .slice (some ⟨r y, 0, none⟩) W W else .slice none 0 0)
  row : ∀ y, y < k → wr.rowIs (r y) 5 W (fun x => byt (g y x))
  ord : ∀ y, y < k → m < r y
  inj : ∀ y z, y < k → z < k → r y = r z → y = z
  bel : Below w.heap.size w wr
  mge : w.heap.size ≤ m
theorem MxK.below {w wr w' : World} {m : Nat} {r : Nat → Nat} {H W k : Nat} {g : Nat → Nat → Nat} (h : MxK w wr m r H W k g) (hb : Below wr.heap.size wr w') : MxK w w' m r H W k g :=
  ⟨rowIs_below h.top hb h.top.lt, fun y hy => rowIs_below (h.row y hy) hb (h.row y hy).lt, h.ord, h.inj, h.bel.trans (hb.mono h.bel.size), h.mge⟩
theorem MxK.put {w wr : World} {m : Nat} {r : Nat → Nat} {H W k : Nat} {g : Nat → Nat → Nat} (h : MxK w wr m r H W k g) {y : Nat} (hy : y < k) (x v : Nat) :
    MxK w (wr.setCell ⟨r y, x, none⟩ (byt v)) m r H W k (fun y' x' => if y' = y ∧ x' = x then v else g y' x') := by
  have ho := h.ord y hy
  refine ⟨h.top.setOther (a := ⟨r y, x, none⟩) (show ¬ m = r y by omega) _, fun z hz => ?_, h.ord, h.inj, h.bel.setCell (show w.heap.size ≤ r y by have := h.mge; omega) _, h.mge⟩
  by_cases hzy : z = y
  · subst hzy
    refine ((h.row z hz).set x _).congr fun i _ => ?_
    by_cases hi : i = x
    · simp [hi]
    · simp [hi]
  · refine ((h.row z hz).setOther (a := ⟨r y, x, none⟩) (show ¬ r z = r y from fun e => hzy (h.inj z y hz hy e)) _).congr fun i _ => ?_
    simp [hzy]
theorem MxK.start (w : World) (H W : Nat) : MxK w (w.alloc (.cells (madeCells #[.slice none 0 0] H) 32)) w.heap.size (fun _ => 0) H W 0 (fun _ _ => 0) :=
  ⟨(World.rowIs_made w (.slice none 0 0) H 32).congr fun i _ => by rw [if_neg (Nat.not_lt_zero i)], fun y hy => absurd hy (Nat.not_lt_zero y), fun y hy => absurd hy (Nat.not_lt_zero y), fun y z hy => absurd hy (Nat.not_lt_zero y), (Below.refl _ _).alloc (Nat.le_refl _) _, Nat.le_refl _⟩
theorem MxK.more {w wr : World} {m : Nat} {r : Nat → Nat} {H W k : Nat} {g : Nat → Nat → Nat} (h : MxK w wr m r H W k g) :
    MxK w ((wr.alloc (.cells (madeCells #[.int .u8 0] W) 5)).setCell ⟨m, k, none⟩ (.slice (some ⟨wr.heap.size, 0, none⟩) W W)) m (fun y => if y = k then wr.heap.size else r y) H W (k + 1) (fun y x => if y = k then 0 else g y x) := by
  have hb : Below wr.heap.size wr (wr.alloc (.cells (madeCells #[.int .u8 0] W) 5)) := (Below.refl _ _).alloc (Nat.le_refl _) _
  have h2 := h.below hb
  have hml := h.top.lt
  have hrl : ∀ y, y < k → r y < wr.heap.size := fun y hy => (h.row y hy).lt
  refine ⟨(h2.top.set k _).congr fun i _ => ?_, fun z hz => ?_, fun y hy => ?_, fun y z hy hz e => ?_, h2.bel.setCell h.mge _, h.mge⟩
  · by_cases hi : i = k
    · subst hi
      simp only [if_true]
      rw [if_pos (Nat.lt_succ_self i)]
    · simp only [if_neg hi]
      by_cases h3 : i < k
      · rw [if_pos h3, if_pos (by omega)]
      · rw [if_neg h3, if_neg (by omega)]
  · by_cases hzk : z = k
    · subst hzk
      simp only [if_true]
      exact ((World.rowIs_made wr (.int .u8 0) W 5).setOther (a := ⟨m, z, none⟩) (show ¬ wr.heap.size = m by omega) _).congr fun i _ => rfl
    · simp only [if_neg hzk]
      have := h.ord z (by omega)
      exact (h2.row z (by omega)).setOther (a := ⟨m, k, none⟩) (show ¬ r z = m by omega) _
  · by_cases hyk : y = k
    · simp only [if_pos hyk]; exact hml
    · simp only [if_neg hyk]; exact h.ord y (by omega)
  · by_cases hyk : y = k
    · by_cases hzk : z = k
      · omega
      · simp only [if_pos hyk, if_neg hzk] at e
        have := hrl z (by omega); omega
    · by_cases hzk : z = k
      · simp only [if_neg hyk, if_pos hzk] at e
        have := hrl y (by omega); omega
      · simp only [if_neg hyk, if_neg hzk] at e
        exact h.inj y z (by omega) (by omega) e
theorem MxK.mat {w wr : World} {m : Nat} {r : Nat → Nat} {H W : Nat} {g : Nat → Nat → Nat} (h : MxK w wr m r H W H g) : Mat wr m r H W g :=
  ⟨fun y hy => by have := h.top.cell hy; rwa [if_pos hy] at this, h.row, h.top.lt⟩
theorem MxK.rs {w wr : World} {m : Nat} {r : Nat → Nat} {H W k : Nat} {g : Nat → Nat → Nat} (h : MxK w wr m r H W k g) (hk : k ≤ H) {y : Nat} (hy : y < k) : wr.cell? ⟨m, y, none⟩ = some (.slice (some ⟨r y, 0, none⟩) W W) := by
  have := h.top.cell (i := y) (by omega); rwa [if_pos hy] at this

theorem and1i (n : Int) : bits .and .i64 n 1 = n % 2 := by
  have h127 : (BitVec.ofInt 64 1).toNat = 2 ^ 1 - 1 := by decide
  have key : (BitVec.ofInt 64 n &&& BitVec.ofInt 64 1).toNat = (n % ((2 ^ 64 : Nat) : Int)).toNat % 2 ^ 1 := by
    rw [BitVec.toNat_and, BitVec.toNat_ofInt, h127, Nat.and_two_pow_sub_one_eq_mod]
  show IntKind.i64.wrap ((BitVec.ofInt 64 n &&& BitVec.ofInt 64 1).toNat : Nat) = n % 2
  rw [key, IntKind.wrap_i64]
  omega

/-- a bit of the codewords, by its number -/
def bitN (out : List F) (v : Nat) : Nat := (hi out (v / 8)).v / 2 ^ (7 - v % 8) % 2
/-- what has been shown when the walk stands at a place -/
def Shown (s : Sym) (G : Nat → Int) (out : List F) (g : Nat → Nat → Nat) (row col : Nat) : Prop :=
  ∀ y x, y < s.R → x < s.C → (y < row ∨ (y = row ∧ x < col)) → 0 ≤ G (y * s.C + x) → g (y + 1 + 2 * (y / s.rr)) (x + 1 + 2 * (x / s.rc)) = bitN out (G (y * s.C + x)).toNat
theorem sp_mono {r a b : Nat} (h : a < b) : a + 1 + 2 * (a / r) < b + 1 + 2 * (b / r) := by
  have : a / r ≤ b / r := Nat.div_le_div_right (Nat.le_of_lt h)
  omega
theorem sp_inj {r a b : Nat} (h : a + 1 + 2 * (a / r) = b + 1 + 2 * (b / r)) : a = b := by
  rcases Nat.lt_trichotomy a b with h1 | h1 | h1
  · have := sp_mono (r := r) h1; omega
  · exact h1
  · have := sp_mono (r := r) h1; omega
theorem Shown.step {s : Sym} {G : Nat → Int} {out : List F} {g : Nat → Nat → Nat} {row col : Nat} (h : Shown s G out g row col) (v : Nat) (hv : 0 ≤ G (row * s.C + col) → v = bitN out (G (row * s.C + col)).toNat) :
    Shown s G out (fun y x => if y = row + 1 + 2 * (row / s.rr) ∧ x = col + 1 + 2 * (col / s.rc) then v else g y x) row (col + 1) := by
  intro y x hy hx hyx hg
  by_cases he : y = row ∧ x = col
  · obtain ⟨rfl, rfl⟩ := he
    simp only [and_self, if_true]
    exact hv hg
  · have hne : ¬ (y + 1 + 2 * (y / s.rr) = row + 1 + 2 * (row / s.rr) ∧ x + 1 + 2 * (x / s.rc) = col + 1 + 2 * (col / s.rc)) := fun ⟨h1, h2⟩ => he ⟨sp_inj h1, sp_inj h2⟩
    simp only [if_neg hne]
    exact h y x hy hx (by omega) hg
theorem Shown.skip {s : Sym} {G : Nat → Int} {out : List F} {g : Nat → Nat → Nat} {row col : Nat} (h : Shown s G out g row col) (hv : ¬ 0 ≤ G (row * s.C + col)) : Shown s G out g row (col + 1) := by
  intro y x hy hx hyx hg
  by_cases he : y = row ∧ x = col
  · obtain ⟨rfl, rfl⟩ := he
    exact absurd hg hv
  · exact h y x hy hx (by omega) hg
theorem Shown.line {s : Sym} {G : Nat → Int} {out : List F} {g : Nat → Nat → Nat} {row : Nat} (h : Shown s G out g row s.C) : Shown s G out g (row + 1) 0 :=
  fun y x hy hx hyx hg => h y x hy hx (by omega) hg
theorem Shown.all {s : Sym} {G : Nat → Int} {out : List F} {g : Nat → Nat → Nat} (h : Shown s G out g s.R 0) (hf : FinG s.R s.C G) (h8 : ∀ sh ∈ layN s.R s.C, sh.length = 8) : ShowsM s g out := by
  intro K sh j pl h1 h2
  obtain ⟨a1, a2, a3, a4, a5⟩ := hf.at_ K j sh pl h1 h2
  have hj : j < 8 := by
    have := (List.getElem?_eq_some_iff.1 h2).1
    rw [h8 sh (List.mem_of_getElem? h1)] at this; exact this
  rw [h _ _ a3 a5 (.inl a3) (by rw [a1]; omega), a1]
  have e : ((8 : Int) * K + j).toNat = 8 * K + j := by omega
  rw [e]
  unfold bitN
  rw [show (8 * K + j) / 8 = K by omega, show (8 * K + j) % 8 = j by omega, Nat.testBit_eq_decide_div_mod_eq]
  refine decide_eq_decide.2 ⟨fun h => ?_, fun h => ?_⟩ <;> omega
end Go.Proofs.YtcnallabiffemaaGreatDoor
