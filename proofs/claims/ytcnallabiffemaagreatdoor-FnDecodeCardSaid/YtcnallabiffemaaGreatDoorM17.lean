import Derived.Test.YtcnallabiffemaaGreatDoorM16
/- Part of the proof that a Data Matrix symbol of a text, damaged at most to half of its check codewords in each block, is decoded to the text (FnDecode): texts Rs. -/
set_option linter.unusedVariables false
set_option linter.unusedSimpArgs false
namespace Go.Proofs.YtcnallabiffemaaGreatDoor
open Go.RowKit (wrap32 wrap64 intOf Hid Below)
open Zx

theorem adj_nn {R C row col : Int} (h1 : 0 ≤ row) (h2 : 0 ≤ col) : adj R C (row, col) = (row, col) := by
  unfold adj
  simp only
  rw [if_neg (show ¬ row < 0 by omega)]
  exact if_neg (show ¬ col < 0 by omega)
theorem readModN (w : World) (t pm bm pr br pv R C : Nat) (wm : Nat → Nat) (V : Nat) (row col : Int) (h : Ps w t pm bm pr br pv R C wm V) (hin : inR R C (row, col) = true) :
    Calls Tryz.prog 162 #[pt t, .int .i64 row, .int .i64 col, .int .i64 R, .int .i64 C] w fun e w' => e = .returned (.bool (mbit C wm (row, col))) ∧
      Ps w' t pm bm pr br pv R C wm (V ||| 2 ^ ix C (row, col)) ∧ But (· = br) w w' ∧ w'.heap.size = w.heap.size := by
  have hi2 := of_decide_eq_true hin
  simp only at hi2
  have hR := h.mm.h1
  have hC := h.mm.w1
  have ha : adj R C (row, col) = (row, col) := adj_nn hi2.1 hi2.2.2.1
  have := readMod w t pm bm pr br pv R C wm V row col h (by omega) (by omega) (by rw [ha]; exact hin)
  rw [ha] at this
  exact this

/-- the codeword at a shape -/
def rdB (C : Nat) (wm : Nat → Nat) (sh : Shp) : Nat := sh.foldl (fun a p => 2 * a + (mbit C wm p).toNat) 0

theorem take8_cons {R C : Int} {p : Pl} {s : Shp} {V V' : Nat} (h : take8 R C (p :: s) V = some V') : inR R C p = true ∧ take8 R C s (V ||| 2 ^ ix C p) = some V' := by
  unfold take8 at h
  split at h
  · rename_i h1
    exact ⟨(Bool.and_eq_true _ _ ▸ h1).1, h⟩
  · cases h
theorem take8_nil {R C : Int} {V V' : Nat} (h : take8 R C [] V = some V') : V = V' := by unfold take8 at h; exact Option.some.inj h

theorem or_even (A : Nat) (h : A < 128) : bits .or .u8 ((A : Int) * 2) 1 = ((2 * A + 1 : Nat) : Int) := by
  have := or_u8 (2 * A) 1 (by omega) (by decide)
  rw [show ((2 * A : Nat) : Int) = (A : Int) * 2 by omega, show ((1 : Nat) : Int) = 1 from rfl] at this
  rw [this]
  congr 1
  have h2 : ∀ A, A < 128 → 2 * A ||| 1 = 2 * A + 1 := by decide +kernel
  exact h2 A h
theorem toNat_le (b : Bool) : b.toNat ≤ 1 := by cases b <;> decide

def RdPost (w : World) (t pm bm pr br pv R C : Nat) (wm : Nat → Nat) (V' : Nat) (sh : Shp) (e : Ending) (w' : World) : Prop :=
  e = .returned (.int .u8 (rdB C wm sh : Nat)) ∧ Ps w' t pm bm pr br pv R C wm V' ∧ But (· = br) w w' ∧ w'.heap.size = w.heap.size


set_option maxRecDepth 100000 in
set_option maxHeartbeats 2000000 in
theorem rdCorn1 (w : World) (t pm bm pr br pv R C : Nat) (wm : Nat → Nat) (V V' : Nat) (h : Ps w t pm bm pr br pv R C wm V)
    (ht : take8 R C (corn1 R C) V = some V') :
    Calls Tryz.prog 82 #[pt t, .int .i64 R, .int .i64 C] w (RdPost w t pm bm pr br pv R C wm V' (corn1 R C)) := by
  have hR := h.mm.h1
  have hC := h.mm.w1
  unfold corn1 at ht ⊢
  obtain ⟨i1, ht⟩ := take8_cons ht
  obtain ⟨i2, ht⟩ := take8_cons ht
  obtain ⟨i3, ht⟩ := take8_cons ht
  obtain ⟨i4, ht⟩ := take8_cons ht
  obtain ⟨i5, ht⟩ := take8_cons ht
  obtain ⟨i6, ht⟩ := take8_cons ht
  obtain ⟨i7, ht⟩ := take8_cons ht
  obtain ⟨i8, ht⟩ := take8_cons ht
  have hV := take8_nil ht; clear ht
  have HV := Lib.hid hV; clear hV
  have I1 := Lib.hid i1; clear i1
  have I2 := Lib.hid i2; clear i2
  have I3 := Lib.hid i3; clear i3
  have I4 := Lib.hid i4; clear i4
  have I5 := Lib.hid i5; clear i5
  have I6 := Lib.hid i6; clear i6
  have I7 := Lib.hid i7; clear i7
  have I8 := Lib.hid i8; clear i8
  have P0 := Lib.hid h; clear h
  have B0 : Hid (But (· = br) w w) := Lib.hid (But.refl _ _)
  go_enter Tryz.func82, Tryz.ntmps82
  go_wp2_with fail
  refine (readModN w t pm bm pr br pv R C wm _ _ _ P0.out I1.out).mono ?_
  rintro e w1 ⟨rfl, hP, hB, hS⟩
  have P1 := Lib.hid hP; clear hP P0
  have B1 := Lib.hid (B0.out.trans hB); clear hB B0
  have S1 : Hid (w1.heap.size = w.heap.size) := Lib.hid (hS); clear hS
  obtain ⟨b1, hb1⟩ : ∃ b, mbit C wm (((R : Int) - 1 : Int), (0 : Int)) = b := ⟨_, rfl⟩
  rw [hb1]
  obtain ⟨A1, hA1⟩ : ∃ A, 2 * 0 + b1.toNat = A := ⟨_, rfl⟩
  have l1 : A1 < 2 := by have := toNat_le b1; omega
  have HB1 := Lib.hid hb1; clear hb1
  go_upto_if 13 with fail
  go_cut [7] from 8 (fun s wx => s = .int .u8 (A1 : Int) ∧ wx = w1)
  case first =>
    cases b1
    · go_wp2
      go_meet
      case rel => exact ⟨by rw [← hA1]; rfl, rfl⟩
    · go_wp2
      go_meet
      case rel => exact ⟨by rw [← hA1]; rfl, rfl⟩
  obtain ⟨hs, hw⟩ := hcut
  subst hs
  rw [hw]
  clear hw wc
  go_wp2_with fail
  refine (readModN w1 t pm bm pr br pv R C wm _ _ _ P1.out I2.out).mono ?_
  rintro e w2 ⟨rfl, hP, hB, hS⟩
  have P2 := Lib.hid hP; clear hP P1
  have B2 := Lib.hid (B1.out.trans hB); clear hB B1
  have S2 : Hid (w2.heap.size = w.heap.size) := Lib.hid (hS.trans S1.out); clear hS
  obtain ⟨b2, hb2⟩ : ∃ b, mbit C wm (((R : Int) - 1 : Int), (1 : Int)) = b := ⟨_, rfl⟩
  rw [hb2]
  obtain ⟨A2, hA2⟩ : ∃ A, 2 * A1 + b2.toNat = A := ⟨_, rfl⟩
  have l2 : A2 < 4 := by have := toNat_le b2; omega
  have oe := or_even A1 (by omega)
  have HB2 := Lib.hid hb2; clear hb2
  go_upto_if 23 with fail
  go_cut [7] from 8 (fun s wx => s = .int .u8 (A2 : Int) ∧ wx = w2)
  case first =>
    cases b2
    · go_wp2
      go_meet
      case rel => exact ⟨by rw [← hA2]; exact val_int (by show _ = ((2 * A1 + 0 : Nat) : Int); omega), rfl⟩
    · go_wp2
      go_meet
      case rel => exact ⟨by rw [← hA2]; exact val_int (by show _ = ((2 * A1 + 1 : Nat) : Int); omega), rfl⟩
  obtain ⟨hs, hw⟩ := hcut
  subst hs
  rw [hw]
  clear hw wc
  clear oe
  go_wp2_with fail
  refine (readModN w2 t pm bm pr br pv R C wm _ _ _ P2.out I3.out).mono ?_
  rintro e w3 ⟨rfl, hP, hB, hS⟩
  have P3 := Lib.hid hP; clear hP P2
  have B3 := Lib.hid (B2.out.trans hB); clear hB B2
  have S3 : Hid (w3.heap.size = w.heap.size) := Lib.hid (hS.trans S2.out); clear hS
  obtain ⟨b3, hb3⟩ : ∃ b, mbit C wm (((R : Int) - 1 : Int), (2 : Int)) = b := ⟨_, rfl⟩
  rw [hb3]
  obtain ⟨A3, hA3⟩ : ∃ A, 2 * A2 + b3.toNat = A := ⟨_, rfl⟩
  have l3 : A3 < 8 := by have := toNat_le b3; omega
  have oe := or_even A2 (by omega)
  have HB3 := Lib.hid hb3; clear hb3
  go_upto_if 33 with fail
  go_cut [7] from 8 (fun s wx => s = .int .u8 (A3 : Int) ∧ wx = w3)
  case first =>
    cases b3
    · go_wp2
      go_meet
      case rel => exact ⟨by rw [← hA3]; exact val_int (by show _ = ((2 * A2 + 0 : Nat) : Int); omega), rfl⟩
    · go_wp2
      go_meet
      case rel => exact ⟨by rw [← hA3]; exact val_int (by show _ = ((2 * A2 + 1 : Nat) : Int); omega), rfl⟩
  obtain ⟨hs, hw⟩ := hcut
  subst hs
  rw [hw]
  clear hw wc
  clear oe
  go_wp2_with fail
  refine (readModN w3 t pm bm pr br pv R C wm _ _ _ P3.out I4.out).mono ?_
  rintro e w4 ⟨rfl, hP, hB, hS⟩
  have P4 := Lib.hid hP; clear hP P3
  have B4 := Lib.hid (B3.out.trans hB); clear hB B3
  have S4 : Hid (w4.heap.size = w.heap.size) := Lib.hid (hS.trans S3.out); clear hS
  obtain ⟨b4, hb4⟩ : ∃ b, mbit C wm ((0 : Int), ((C : Int) - 2 : Int)) = b := ⟨_, rfl⟩
  rw [hb4]
  obtain ⟨A4, hA4⟩ : ∃ A, 2 * A3 + b4.toNat = A := ⟨_, rfl⟩
  have l4 : A4 < 16 := by have := toNat_le b4; omega
  have oe := or_even A3 (by omega)
  have HB4 := Lib.hid hb4; clear hb4
  go_upto_if 43 with fail
  go_cut [7] from 8 (fun s wx => s = .int .u8 (A4 : Int) ∧ wx = w4)
  case first =>
    cases b4
    · go_wp2
      go_meet
      case rel => exact ⟨by rw [← hA4]; exact val_int (by show _ = ((2 * A3 + 0 : Nat) : Int); omega), rfl⟩
    · go_wp2
      go_meet
      case rel => exact ⟨by rw [← hA4]; exact val_int (by show _ = ((2 * A3 + 1 : Nat) : Int); omega), rfl⟩
  obtain ⟨hs, hw⟩ := hcut
  subst hs
  rw [hw]
  clear hw wc
  clear oe
  go_wp2_with fail
  refine (readModN w4 t pm bm pr br pv R C wm _ _ _ P4.out I5.out).mono ?_
  rintro e w5 ⟨rfl, hP, hB, hS⟩
  have P5 := Lib.hid hP; clear hP P4
  have B5 := Lib.hid (B4.out.trans hB); clear hB B4
  have S5 : Hid (w5.heap.size = w.heap.size) := Lib.hid (hS.trans S4.out); clear hS
  obtain ⟨b5, hb5⟩ : ∃ b, mbit C wm ((0 : Int), ((C : Int) - 1 : Int)) = b := ⟨_, rfl⟩
  rw [hb5]
  obtain ⟨A5, hA5⟩ : ∃ A, 2 * A4 + b5.toNat = A := ⟨_, rfl⟩
  have l5 : A5 < 32 := by have := toNat_le b5; omega
  have oe := or_even A4 (by omega)
  have HB5 := Lib.hid hb5; clear hb5
  go_upto_if 53 with fail
  go_cut [7] from 8 (fun s wx => s = .int .u8 (A5 : Int) ∧ wx = w5)
  case first =>
    cases b5
    · go_wp2
      go_meet
      case rel => exact ⟨by rw [← hA5]; exact val_int (by show _ = ((2 * A4 + 0 : Nat) : Int); omega), rfl⟩
    · go_wp2
      go_meet
      case rel => exact ⟨by rw [← hA5]; exact val_int (by show _ = ((2 * A4 + 1 : Nat) : Int); omega), rfl⟩
  obtain ⟨hs, hw⟩ := hcut
  subst hs
  rw [hw]
  clear hw wc
  clear oe
  go_wp2_with fail
  refine (readModN w5 t pm bm pr br pv R C wm _ _ _ P5.out I6.out).mono ?_
  rintro e w6 ⟨rfl, hP, hB, hS⟩
  have P6 := Lib.hid hP; clear hP P5
  have B6 := Lib.hid (B5.out.trans hB); clear hB B5
  have S6 : Hid (w6.heap.size = w.heap.size) := Lib.hid (hS.trans S5.out); clear hS
  obtain ⟨b6, hb6⟩ : ∃ b, mbit C wm ((1 : Int), ((C : Int) - 1 : Int)) = b := ⟨_, rfl⟩
  rw [hb6]
  obtain ⟨A6, hA6⟩ : ∃ A, 2 * A5 + b6.toNat = A := ⟨_, rfl⟩
  have l6 : A6 < 64 := by have := toNat_le b6; omega
  have oe := or_even A5 (by omega)
  have HB6 := Lib.hid hb6; clear hb6
  go_upto_if 63 with fail
  go_cut [7] from 8 (fun s wx => s = .int .u8 (A6 : Int) ∧ wx = w6)
  case first =>
    cases b6
    · go_wp2
      go_meet
      case rel => exact ⟨by rw [← hA6]; exact val_int (by show _ = ((2 * A5 + 0 : Nat) : Int); omega), rfl⟩
    · go_wp2
      go_meet
      case rel => exact ⟨by rw [← hA6]; exact val_int (by show _ = ((2 * A5 + 1 : Nat) : Int); omega), rfl⟩
  obtain ⟨hs, hw⟩ := hcut
  subst hs
  rw [hw]
  clear hw wc
  clear oe
  go_wp2_with fail
  refine (readModN w6 t pm bm pr br pv R C wm _ _ _ P6.out I7.out).mono ?_
  rintro e w7 ⟨rfl, hP, hB, hS⟩
  have P7 := Lib.hid hP; clear hP P6
  have B7 := Lib.hid (B6.out.trans hB); clear hB B6
  have S7 : Hid (w7.heap.size = w.heap.size) := Lib.hid (hS.trans S6.out); clear hS
  obtain ⟨b7, hb7⟩ : ∃ b, mbit C wm ((2 : Int), ((C : Int) - 1 : Int)) = b := ⟨_, rfl⟩
  rw [hb7]
  obtain ⟨A7, hA7⟩ : ∃ A, 2 * A6 + b7.toNat = A := ⟨_, rfl⟩
  have l7 : A7 < 128 := by have := toNat_le b7; omega
  have oe := or_even A6 (by omega)
  have HB7 := Lib.hid hb7; clear hb7
  go_upto_if 73 with fail
  go_cut [7] from 8 (fun s wx => s = .int .u8 (A7 : Int) ∧ wx = w7)
  case first =>
    cases b7
    · go_wp2
      go_meet
      case rel => exact ⟨by rw [← hA7]; exact val_int (by show _ = ((2 * A6 + 0 : Nat) : Int); omega), rfl⟩
    · go_wp2
      go_meet
      case rel => exact ⟨by rw [← hA7]; exact val_int (by show _ = ((2 * A6 + 1 : Nat) : Int); omega), rfl⟩
  obtain ⟨hs, hw⟩ := hcut
  subst hs
  rw [hw]
  clear hw wc
  clear oe
  go_wp2_with fail
  refine (readModN w7 t pm bm pr br pv R C wm _ _ _ P7.out I8.out).mono ?_
  rintro e w8 ⟨rfl, hP, hB, hS⟩
  have P8 := Lib.hid hP; clear hP P7
  have B8 := Lib.hid (B7.out.trans hB); clear hB B7
  have S8 : Hid (w8.heap.size = w.heap.size) := Lib.hid (hS.trans S7.out); clear hS
  obtain ⟨b8, hb8⟩ : ∃ b, mbit C wm ((3 : Int), ((C : Int) - 1 : Int)) = b := ⟨_, rfl⟩
  rw [hb8]
  obtain ⟨A8, hA8⟩ : ∃ A, 2 * A7 + b8.toNat = A := ⟨_, rfl⟩
  have l8 : A8 < 256 := by have := toNat_le b8; omega
  have oe := or_even A7 (by omega)
  have HB8 := Lib.hid hb8; clear hb8
  go_upto_if 83 with fail
  go_cut [7] from 8 (fun s wx => s = .int .u8 (A8 : Int) ∧ wx = w8)
  case first =>
    cases b8
    · go_wp2
      go_meet
      case rel => exact ⟨by rw [← hA8]; exact val_int (by show _ = ((2 * A7 + 0 : Nat) : Int); omega), rfl⟩
    · go_wp2
      go_meet
      case rel => exact ⟨by rw [← hA8]; exact val_int (by show _ = ((2 * A7 + 1 : Nat) : Int); omega), rfl⟩
  obtain ⟨hs, hw⟩ := hcut
  subst hs
  rw [hw]
  clear hw wc
  clear oe
  go_wp2
  go_ret
  refine ⟨?_, by rw [← HV.out]; exact P8.out, B8.out, S8.out⟩
  show Ending.returned (.int .u8 (A8 : Int)) = _
  refine ret_int ?_
  unfold rdB
  simp only [List.foldl_cons, List.foldl_nil]
  rw [HB1.out, HB2.out, HB3.out, HB4.out, HB5.out, HB6.out, HB7.out, HB8.out, hA1, hA2, hA3, hA4, hA5, hA6, hA7, hA8]

set_option maxRecDepth 100000 in
set_option maxHeartbeats 2000000 in
theorem rdCorn2 (w : World) (t pm bm pr br pv R C : Nat) (wm : Nat → Nat) (V V' : Nat) (h : Ps w t pm bm pr br pv R C wm V)
    (ht : take8 R C (corn2 R C) V = some V') :
    Calls Tryz.prog 83 #[pt t, .int .i64 R, .int .i64 C] w (RdPost w t pm bm pr br pv R C wm V' (corn2 R C)) := by
  have hR := h.mm.h1
  have hC := h.mm.w1
  unfold corn2 at ht ⊢
  obtain ⟨i1, ht⟩ := take8_cons ht
  obtain ⟨i2, ht⟩ := take8_cons ht
  obtain ⟨i3, ht⟩ := take8_cons ht
  obtain ⟨i4, ht⟩ := take8_cons ht
  obtain ⟨i5, ht⟩ := take8_cons ht
  obtain ⟨i6, ht⟩ := take8_cons ht
  obtain ⟨i7, ht⟩ := take8_cons ht
  obtain ⟨i8, ht⟩ := take8_cons ht
  have hV := take8_nil ht; clear ht
  have HV := Lib.hid hV; clear hV
  have I1 := Lib.hid i1; clear i1
  have I2 := Lib.hid i2; clear i2
  have I3 := Lib.hid i3; clear i3
  have I4 := Lib.hid i4; clear i4
  have I5 := Lib.hid i5; clear i5
  have I6 := Lib.hid i6; clear i6
  have I7 := Lib.hid i7; clear i7
  have I8 := Lib.hid i8; clear i8
  have P0 := Lib.hid h; clear h
  have B0 : Hid (But (· = br) w w) := Lib.hid (But.refl _ _)
  go_enter Tryz.func83, Tryz.ntmps83
  go_wp2_with fail
  refine (readModN w t pm bm pr br pv R C wm _ _ _ P0.out I1.out).mono ?_
  rintro e w1 ⟨rfl, hP, hB, hS⟩
  have P1 := Lib.hid hP; clear hP P0
  have B1 := Lib.hid (B0.out.trans hB); clear hB B0
  have S1 : Hid (w1.heap.size = w.heap.size) := Lib.hid (hS); clear hS
  obtain ⟨b1, hb1⟩ : ∃ b, mbit C wm (((R : Int) - 3 : Int), (0 : Int)) = b := ⟨_, rfl⟩
  rw [hb1]
  obtain ⟨A1, hA1⟩ : ∃ A, 2 * 0 + b1.toNat = A := ⟨_, rfl⟩
  have l1 : A1 < 2 := by have := toNat_le b1; omega
  have HB1 := Lib.hid hb1; clear hb1
  go_upto_if 13 with fail
  go_cut [7] from 8 (fun s wx => s = .int .u8 (A1 : Int) ∧ wx = w1)
  case first =>
    cases b1
    · go_wp2
      go_meet
      case rel => exact ⟨by rw [← hA1]; rfl, rfl⟩
    · go_wp2
      go_meet
      case rel => exact ⟨by rw [← hA1]; rfl, rfl⟩
  obtain ⟨hs, hw⟩ := hcut
  subst hs
  rw [hw]
  clear hw wc
  go_wp2_with fail
  refine (readModN w1 t pm bm pr br pv R C wm _ _ _ P1.out I2.out).mono ?_
  rintro e w2 ⟨rfl, hP, hB, hS⟩
  have P2 := Lib.hid hP; clear hP P1
  have B2 := Lib.hid (B1.out.trans hB); clear hB B1
  have S2 : Hid (w2.heap.size = w.heap.size) := Lib.hid (hS.trans S1.out); clear hS
  obtain ⟨b2, hb2⟩ : ∃ b, mbit C wm (((R : Int) - 2 : Int), (0 : Int)) = b := ⟨_, rfl⟩
  rw [hb2]
  obtain ⟨A2, hA2⟩ : ∃ A, 2 * A1 + b2.toNat = A := ⟨_, rfl⟩
  have l2 : A2 < 4 := by have := toNat_le b2; omega
  have oe := or_even A1 (by omega)
  have HB2 := Lib.hid hb2; clear hb2
  go_upto_if 23 with fail
  go_cut [7] from 8 (fun s wx => s = .int .u8 (A2 : Int) ∧ wx = w2)
  case first =>
    cases b2
    · go_wp2
      go_meet
      case rel => exact ⟨by rw [← hA2]; exact val_int (by show _ = ((2 * A1 + 0 : Nat) : Int); omega), rfl⟩
    · go_wp2
      go_meet
      case rel => exact ⟨by rw [← hA2]; exact val_int (by show _ = ((2 * A1 + 1 : Nat) : Int); omega), rfl⟩
  obtain ⟨hs, hw⟩ := hcut
  subst hs
  rw [hw]
  clear hw wc
  clear oe
  go_wp2_with fail
  refine (readModN w2 t pm bm pr br pv R C wm _ _ _ P2.out I3.out).mono ?_
  rintro e w3 ⟨rfl, hP, hB, hS⟩
  have P3 := Lib.hid hP; clear hP P2
  have B3 := Lib.hid (B2.out.trans hB); clear hB B2
  have S3 : Hid (w3.heap.size = w.heap.size) := Lib.hid (hS.trans S2.out); clear hS
  obtain ⟨b3, hb3⟩ : ∃ b, mbit C wm (((R : Int) - 1 : Int), (0 : Int)) = b := ⟨_, rfl⟩
  rw [hb3]
  obtain ⟨A3, hA3⟩ : ∃ A, 2 * A2 + b3.toNat = A := ⟨_, rfl⟩
  have l3 : A3 < 8 := by have := toNat_le b3; omega
  have oe := or_even A2 (by omega)
  have HB3 := Lib.hid hb3; clear hb3
  go_upto_if 33 with fail
  go_cut [7] from 8 (fun s wx => s = .int .u8 (A3 : Int) ∧ wx = w3)
  case first =>
    cases b3
    · go_wp2
      go_meet
      case rel => exact ⟨by rw [← hA3]; exact val_int (by show _ = ((2 * A2 + 0 : Nat) : Int); omega), rfl⟩
    · go_wp2
      go_meet
      case rel => exact ⟨by rw [← hA3]; exact val_int (by show _ = ((2 * A2 + 1 : Nat) : Int); omega), rfl⟩
  obtain ⟨hs, hw⟩ := hcut
  subst hs
  rw [hw]
  clear hw wc
  clear oe
  go_wp2_with fail
  refine (readModN w3 t pm bm pr br pv R C wm _ _ _ P3.out I4.out).mono ?_
  rintro e w4 ⟨rfl, hP, hB, hS⟩
  have P4 := Lib.hid hP; clear hP P3
  have B4 := Lib.hid (B3.out.trans hB); clear hB B3
  have S4 : Hid (w4.heap.size = w.heap.size) := Lib.hid (hS.trans S3.out); clear hS
  obtain ⟨b4, hb4⟩ : ∃ b, mbit C wm ((0 : Int), ((C : Int) - 4 : Int)) = b := ⟨_, rfl⟩
  rw [hb4]
  obtain ⟨A4, hA4⟩ : ∃ A, 2 * A3 + b4.toNat = A := ⟨_, rfl⟩
  have l4 : A4 < 16 := by have := toNat_le b4; omega
  have oe := or_even A3 (by omega)
  have HB4 := Lib.hid hb4; clear hb4
  go_upto_if 43 with fail
  go_cut [7] from 8 (fun s wx => s = .int .u8 (A4 : Int) ∧ wx = w4)
  case first =>
    cases b4
    · go_wp2
      go_meet
      case rel => exact ⟨by rw [← hA4]; exact val_int (by show _ = ((2 * A3 + 0 : Nat) : Int); omega), rfl⟩
    · go_wp2
      go_meet
      case rel => exact ⟨by rw [← hA4]; exact val_int (by show _ = ((2 * A3 + 1 : Nat) : Int); omega), rfl⟩
  obtain ⟨hs, hw⟩ := hcut
  subst hs
  rw [hw]
  clear hw wc
  clear oe
  go_wp2_with fail
  refine (readModN w4 t pm bm pr br pv R C wm _ _ _ P4.out I5.out).mono ?_
  rintro e w5 ⟨rfl, hP, hB, hS⟩
  have P5 := Lib.hid hP; clear hP P4
  have B5 := Lib.hid (B4.out.trans hB); clear hB B4
  have S5 : Hid (w5.heap.size = w.heap.size) := Lib.hid (hS.trans S4.out); clear hS
  obtain ⟨b5, hb5⟩ : ∃ b, mbit C wm ((0 : Int), ((C : Int) - 3 : Int)) = b := ⟨_, rfl⟩
  rw [hb5]
  obtain ⟨A5, hA5⟩ : ∃ A, 2 * A4 + b5.toNat = A := ⟨_, rfl⟩
  have l5 : A5 < 32 := by have := toNat_le b5; omega
  have oe := or_even A4 (by omega)
  have HB5 := Lib.hid hb5; clear hb5
  go_upto_if 53 with fail
  go_cut [7] from 8 (fun s wx => s = .int .u8 (A5 : Int) ∧ wx = w5)
  case first =>
    cases b5
    · go_wp2
      go_meet
      case rel => exact ⟨by rw [← hA5]; exact val_int (by show _ = ((2 * A4 + 0 : Nat) : Int); omega), rfl⟩
    · go_wp2
      go_meet
      case rel => exact ⟨by rw [← hA5]; exact val_int (by show _ = ((2 * A4 + 1 : Nat) : Int); omega), rfl⟩
  obtain ⟨hs, hw⟩ := hcut
  subst hs
  rw [hw]
  clear hw wc
  clear oe
  go_wp2_with fail
  refine (readModN w5 t pm bm pr br pv R C wm _ _ _ P5.out I6.out).mono ?_
  rintro e w6 ⟨rfl, hP, hB, hS⟩
  have P6 := Lib.hid hP; clear hP P5
  have B6 := Lib.hid (B5.out.trans hB); clear hB B5
  have S6 : Hid (w6.heap.size = w.heap.size) := Lib.hid (hS.trans S5.out); clear hS
  obtain ⟨b6, hb6⟩ : ∃ b, mbit C wm ((0 : Int), ((C : Int) - 2 : Int)) = b := ⟨_, rfl⟩
  rw [hb6]
  obtain ⟨A6, hA6⟩ : ∃ A, 2 * A5 + b6.toNat = A := ⟨_, rfl⟩
  have l6 : A6 < 64 := by have := toNat_le b6; omega
  have oe := or_even A5 (by omega)
  have HB6 := Lib.hid hb6; clear hb6
  go_upto_if 63 with fail
  go_cut [7] from 8 (fun s wx => s = .int .u8 (A6 : Int) ∧ wx = w6)
  case first =>
    cases b6
    · go_wp2
      go_meet
      case rel => exact ⟨by rw [← hA6]; exact val_int (by show _ = ((2 * A5 + 0 : Nat) : Int); omega), rfl⟩
    · go_wp2
      go_meet
      case rel => exact ⟨by rw [← hA6]; exact val_int (by show _ = ((2 * A5 + 1 : Nat) : Int); omega), rfl⟩
  obtain ⟨hs, hw⟩ := hcut
  subst hs
  rw [hw]
  clear hw wc
  clear oe
  go_wp2_with fail
  refine (readModN w6 t pm bm pr br pv R C wm _ _ _ P6.out I7.out).mono ?_
  rintro e w7 ⟨rfl, hP, hB, hS⟩
  have P7 := Lib.hid hP; clear hP P6
  have B7 := Lib.hid (B6.out.trans hB); clear hB B6
  have S7 : Hid (w7.heap.size = w.heap.size) := Lib.hid (hS.trans S6.out); clear hS
  obtain ⟨b7, hb7⟩ : ∃ b, mbit C wm ((0 : Int), ((C : Int) - 1 : Int)) = b := ⟨_, rfl⟩
  rw [hb7]
  obtain ⟨A7, hA7⟩ : ∃ A, 2 * A6 + b7.toNat = A := ⟨_, rfl⟩
  have l7 : A7 < 128 := by have := toNat_le b7; omega
  have oe := or_even A6 (by omega)
  have HB7 := Lib.hid hb7; clear hb7
  go_upto_if 73 with fail
  go_cut [7] from 8 (fun s wx => s = .int .u8 (A7 : Int) ∧ wx = w7)
  case first =>
    cases b7
    · go_wp2
      go_meet
      case rel => exact ⟨by rw [← hA7]; exact val_int (by show _ = ((2 * A6 + 0 : Nat) : Int); omega), rfl⟩
    · go_wp2
      go_meet
      case rel => exact ⟨by rw [← hA7]; exact val_int (by show _ = ((2 * A6 + 1 : Nat) : Int); omega), rfl⟩
  obtain ⟨hs, hw⟩ := hcut
  subst hs
  rw [hw]
  clear hw wc
  clear oe
  go_wp2_with fail
  refine (readModN w7 t pm bm pr br pv R C wm _ _ _ P7.out I8.out).mono ?_
  rintro e w8 ⟨rfl, hP, hB, hS⟩
  have P8 := Lib.hid hP; clear hP P7
  have B8 := Lib.hid (B7.out.trans hB); clear hB B7
  have S8 : Hid (w8.heap.size = w.heap.size) := Lib.hid (hS.trans S7.out); clear hS
  obtain ⟨b8, hb8⟩ : ∃ b, mbit C wm ((1 : Int), ((C : Int) - 1 : Int)) = b := ⟨_, rfl⟩
  rw [hb8]
  obtain ⟨A8, hA8⟩ : ∃ A, 2 * A7 + b8.toNat = A := ⟨_, rfl⟩
  have l8 : A8 < 256 := by have := toNat_le b8; omega
  have oe := or_even A7 (by omega)
  have HB8 := Lib.hid hb8; clear hb8
  go_upto_if 83 with fail
  go_cut [7] from 8 (fun s wx => s = .int .u8 (A8 : Int) ∧ wx = w8)
  case first =>
    cases b8
    · go_wp2
      go_meet
      case rel => exact ⟨by rw [← hA8]; exact val_int (by show _ = ((2 * A7 + 0 : Nat) : Int); omega), rfl⟩
    · go_wp2
      go_meet
      case rel => exact ⟨by rw [← hA8]; exact val_int (by show _ = ((2 * A7 + 1 : Nat) : Int); omega), rfl⟩
  obtain ⟨hs, hw⟩ := hcut
  subst hs
  rw [hw]
  clear hw wc
  clear oe
  go_wp2
  go_ret
  refine ⟨?_, by rw [← HV.out]; exact P8.out, B8.out, S8.out⟩
  show Ending.returned (.int .u8 (A8 : Int)) = _
  refine ret_int ?_
  unfold rdB
  simp only [List.foldl_cons, List.foldl_nil]
  rw [HB1.out, HB2.out, HB3.out, HB4.out, HB5.out, HB6.out, HB7.out, HB8.out, hA1, hA2, hA3, hA4, hA5, hA6, hA7, hA8]

set_option maxRecDepth 100000 in
set_option maxHeartbeats 2000000 in
theorem rdCorn3 (w : World) (t pm bm pr br pv R C : Nat) (wm : Nat → Nat) (V V' : Nat) (h : Ps w t pm bm pr br pv R C wm V)
    (ht : take8 R C (corn3 R C) V = some V') :
    Calls Tryz.prog 84 #[pt t, .int .i64 R, .int .i64 C] w (RdPost w t pm bm pr br pv R C wm V' (corn3 R C)) := by
  have hR := h.mm.h1
  have hC := h.mm.w1
  unfold corn3 at ht ⊢
  obtain ⟨i1, ht⟩ := take8_cons ht
  obtain ⟨i2, ht⟩ := take8_cons ht
  obtain ⟨i3, ht⟩ := take8_cons ht
  obtain ⟨i4, ht⟩ := take8_cons ht
  obtain ⟨i5, ht⟩ := take8_cons ht
  obtain ⟨i6, ht⟩ := take8_cons ht
  obtain ⟨i7, ht⟩ := take8_cons ht
  obtain ⟨i8, ht⟩ := take8_cons ht
  have hV := take8_nil ht; clear ht
  have HV := Lib.hid hV; clear hV
  have I1 := Lib.hid i1; clear i1
  have I2 := Lib.hid i2; clear i2
  have I3 := Lib.hid i3; clear i3
  have I4 := Lib.hid i4; clear i4
  have I5 := Lib.hid i5; clear i5
  have I6 := Lib.hid i6; clear i6
  have I7 := Lib.hid i7; clear i7
  have I8 := Lib.hid i8; clear i8
  have P0 := Lib.hid h; clear h
  have B0 : Hid (But (· = br) w w) := Lib.hid (But.refl _ _)
  go_enter Tryz.func84, Tryz.ntmps84
  go_wp2_with fail
  refine (readModN w t pm bm pr br pv R C wm _ _ _ P0.out I1.out).mono ?_
  rintro e w1 ⟨rfl, hP, hB, hS⟩
  have P1 := Lib.hid hP; clear hP P0
  have B1 := Lib.hid (B0.out.trans hB); clear hB B0
  have S1 : Hid (w1.heap.size = w.heap.size) := Lib.hid (hS); clear hS
  obtain ⟨b1, hb1⟩ : ∃ b, mbit C wm (((R : Int) - 1 : Int), (0 : Int)) = b := ⟨_, rfl⟩
  rw [hb1]
  obtain ⟨A1, hA1⟩ : ∃ A, 2 * 0 + b1.toNat = A := ⟨_, rfl⟩
  have l1 : A1 < 2 := by have := toNat_le b1; omega
  have HB1 := Lib.hid hb1; clear hb1
  go_upto_if 13 with fail
  go_cut [7] from 8 (fun s wx => s = .int .u8 (A1 : Int) ∧ wx = w1)
  case first =>
    cases b1
    · go_wp2
      go_meet
      case rel => exact ⟨by rw [← hA1]; rfl, rfl⟩
    · go_wp2
      go_meet
      case rel => exact ⟨by rw [← hA1]; rfl, rfl⟩
  obtain ⟨hs, hw⟩ := hcut
  subst hs
  rw [hw]
  clear hw wc
  go_wp2_with fail
  refine (readModN w1 t pm bm pr br pv R C wm _ _ _ P1.out I2.out).mono ?_
  rintro e w2 ⟨rfl, hP, hB, hS⟩
  have P2 := Lib.hid hP; clear hP P1
  have B2 := Lib.hid (B1.out.trans hB); clear hB B1
  have S2 : Hid (w2.heap.size = w.heap.size) := Lib.hid (hS.trans S1.out); clear hS
  obtain ⟨b2, hb2⟩ : ∃ b, mbit C wm (((R : Int) - 1 : Int), ((C : Int) - 1 : Int)) = b := ⟨_, rfl⟩
  rw [hb2]
  obtain ⟨A2, hA2⟩ : ∃ A, 2 * A1 + b2.toNat = A := ⟨_, rfl⟩
  have l2 : A2 < 4 := by have := toNat_le b2; omega
  have oe := or_even A1 (by omega)
  have HB2 := Lib.hid hb2; clear hb2
  go_upto_if 25 with fail
  go_cut [7] from 8 (fun s wx => s = .int .u8 (A2 : Int) ∧ wx = w2)
  case first =>
    cases b2
    · go_wp2
      go_meet
      case rel => exact ⟨by rw [← hA2]; exact val_int (by show _ = ((2 * A1 + 0 : Nat) : Int); omega), rfl⟩
    · go_wp2
      go_meet
      case rel => exact ⟨by rw [← hA2]; exact val_int (by show _ = ((2 * A1 + 1 : Nat) : Int); omega), rfl⟩
  obtain ⟨hs, hw⟩ := hcut
  subst hs
  rw [hw]
  clear hw wc
  clear oe
  go_wp2_with fail
  refine (readModN w2 t pm bm pr br pv R C wm _ _ _ P2.out I3.out).mono ?_
  rintro e w3 ⟨rfl, hP, hB, hS⟩
  have P3 := Lib.hid hP; clear hP P2
  have B3 := Lib.hid (B2.out.trans hB); clear hB B2
  have S3 : Hid (w3.heap.size = w.heap.size) := Lib.hid (hS.trans S2.out); clear hS
  obtain ⟨b3, hb3⟩ : ∃ b, mbit C wm ((0 : Int), ((C : Int) - 3 : Int)) = b := ⟨_, rfl⟩
  rw [hb3]
  obtain ⟨A3, hA3⟩ : ∃ A, 2 * A2 + b3.toNat = A := ⟨_, rfl⟩
  have l3 : A3 < 8 := by have := toNat_le b3; omega
  have oe := or_even A2 (by omega)
  have HB3 := Lib.hid hb3; clear hb3
  go_upto_if 35 with fail
  go_cut [7] from 8 (fun s wx => s = .int .u8 (A3 : Int) ∧ wx = w3)
  case first =>
    cases b3
    · go_wp2
      go_meet
      case rel => exact ⟨by rw [← hA3]; exact val_int (by show _ = ((2 * A2 + 0 : Nat) : Int); omega), rfl⟩
    · go_wp2
      go_meet
      case rel => exact ⟨by rw [← hA3]; exact val_int (by show _ = ((2 * A2 + 1 : Nat) : Int); omega), rfl⟩
  obtain ⟨hs, hw⟩ := hcut
  subst hs
  rw [hw]
  clear hw wc
  clear oe
  go_wp2_with fail
  refine (readModN w3 t pm bm pr br pv R C wm _ _ _ P3.out I4.out).mono ?_
  rintro e w4 ⟨rfl, hP, hB, hS⟩
  have P4 := Lib.hid hP; clear hP P3
  have B4 := Lib.hid (B3.out.trans hB); clear hB B3
  have S4 : Hid (w4.heap.size = w.heap.size) := Lib.hid (hS.trans S3.out); clear hS
  obtain ⟨b4, hb4⟩ : ∃ b, mbit C wm ((0 : Int), ((C : Int) - 2 : Int)) = b := ⟨_, rfl⟩
  rw [hb4]
  obtain ⟨A4, hA4⟩ : ∃ A, 2 * A3 + b4.toNat = A := ⟨_, rfl⟩
  have l4 : A4 < 16 := by have := toNat_le b4; omega
  have oe := or_even A3 (by omega)
  have HB4 := Lib.hid hb4; clear hb4
  go_upto_if 45 with fail
  go_cut [7] from 8 (fun s wx => s = .int .u8 (A4 : Int) ∧ wx = w4)
  case first =>
    cases b4
    · go_wp2
      go_meet
      case rel => exact ⟨by rw [← hA4]; exact val_int (by show _ = ((2 * A3 + 0 : Nat) : Int); omega), rfl⟩
    · go_wp2
      go_meet
      case rel => exact ⟨by rw [← hA4]; exact val_int (by show _ = ((2 * A3 + 1 : Nat) : Int); omega), rfl⟩
  obtain ⟨hs, hw⟩ := hcut
  subst hs
  rw [hw]
  clear hw wc
  clear oe
  go_wp2_with fail
  refine (readModN w4 t pm bm pr br pv R C wm _ _ _ P4.out I5.out).mono ?_
  rintro e w5 ⟨rfl, hP, hB, hS⟩
  have P5 := Lib.hid hP; clear hP P4
  have B5 := Lib.hid (B4.out.trans hB); clear hB B4
  have S5 : Hid (w5.heap.size = w.heap.size) := Lib.hid (hS.trans S4.out); clear hS
  obtain ⟨b5, hb5⟩ : ∃ b, mbit C wm ((0 : Int), ((C : Int) - 1 : Int)) = b := ⟨_, rfl⟩
  rw [hb5]
  obtain ⟨A5, hA5⟩ : ∃ A, 2 * A4 + b5.toNat = A := ⟨_, rfl⟩
  have l5 : A5 < 32 := by have := toNat_le b5; omega
  have oe := or_even A4 (by omega)
  have HB5 := Lib.hid hb5; clear hb5
  go_upto_if 55 with fail
  go_cut [7] from 8 (fun s wx => s = .int .u8 (A5 : Int) ∧ wx = w5)
  case first =>
    cases b5
    · go_wp2
      go_meet
      case rel => exact ⟨by rw [← hA5]; exact val_int (by show _ = ((2 * A4 + 0 : Nat) : Int); omega), rfl⟩
    · go_wp2
      go_meet
      case rel => exact ⟨by rw [← hA5]; exact val_int (by show _ = ((2 * A4 + 1 : Nat) : Int); omega), rfl⟩
  obtain ⟨hs, hw⟩ := hcut
  subst hs
  rw [hw]
  clear hw wc
  clear oe
  go_wp2_with fail
  refine (readModN w5 t pm bm pr br pv R C wm _ _ _ P5.out I6.out).mono ?_
  rintro e w6 ⟨rfl, hP, hB, hS⟩
  have P6 := Lib.hid hP; clear hP P5
  have B6 := Lib.hid (B5.out.trans hB); clear hB B5
  have S6 : Hid (w6.heap.size = w.heap.size) := Lib.hid (hS.trans S5.out); clear hS
  obtain ⟨b6, hb6⟩ : ∃ b, mbit C wm ((1 : Int), ((C : Int) - 3 : Int)) = b := ⟨_, rfl⟩
  rw [hb6]
  obtain ⟨A6, hA6⟩ : ∃ A, 2 * A5 + b6.toNat = A := ⟨_, rfl⟩
  have l6 : A6 < 64 := by have := toNat_le b6; omega
  have oe := or_even A5 (by omega)
  have HB6 := Lib.hid hb6; clear hb6
  go_upto_if 65 with fail
  go_cut [7] from 8 (fun s wx => s = .int .u8 (A6 : Int) ∧ wx = w6)
  case first =>
    cases b6
    · go_wp2
      go_meet
      case rel => exact ⟨by rw [← hA6]; exact val_int (by show _ = ((2 * A5 + 0 : Nat) : Int); omega), rfl⟩
    · go_wp2
      go_meet
      case rel => exact ⟨by rw [← hA6]; exact val_int (by show _ = ((2 * A5 + 1 : Nat) : Int); omega), rfl⟩
  obtain ⟨hs, hw⟩ := hcut
  subst hs
  rw [hw]
  clear hw wc
  clear oe
  go_wp2_with fail
  refine (readModN w6 t pm bm pr br pv R C wm _ _ _ P6.out I7.out).mono ?_
  rintro e w7 ⟨rfl, hP, hB, hS⟩
  have P7 := Lib.hid hP; clear hP P6
  have B7 := Lib.hid (B6.out.trans hB); clear hB B6
  have S7 : Hid (w7.heap.size = w.heap.size) := Lib.hid (hS.trans S6.out); clear hS
  obtain ⟨b7, hb7⟩ : ∃ b, mbit C wm ((1 : Int), ((C : Int) - 2 : Int)) = b := ⟨_, rfl⟩
  rw [hb7]
  obtain ⟨A7, hA7⟩ : ∃ A, 2 * A6 + b7.toNat = A := ⟨_, rfl⟩
  have l7 : A7 < 128 := by have := toNat_le b7; omega
  have oe := or_even A6 (by omega)
  have HB7 := Lib.hid hb7; clear hb7
  go_upto_if 75 with fail
  go_cut [7] from 8 (fun s wx => s = .int .u8 (A7 : Int) ∧ wx = w7)
  case first =>
    cases b7
    · go_wp2
      go_meet
      case rel => exact ⟨by rw [← hA7]; exact val_int (by show _ = ((2 * A6 + 0 : Nat) : Int); omega), rfl⟩
    · go_wp2
      go_meet
      case rel => exact ⟨by rw [← hA7]; exact val_int (by show _ = ((2 * A6 + 1 : Nat) : Int); omega), rfl⟩
  obtain ⟨hs, hw⟩ := hcut
  subst hs
  rw [hw]
  clear hw wc
  clear oe
  go_wp2_with fail
  refine (readModN w7 t pm bm pr br pv R C wm _ _ _ P7.out I8.out).mono ?_
  rintro e w8 ⟨rfl, hP, hB, hS⟩
  have P8 := Lib.hid hP; clear hP P7
  have B8 := Lib.hid (B7.out.trans hB); clear hB B7
  have S8 : Hid (w8.heap.size = w.heap.size) := Lib.hid (hS.trans S7.out); clear hS
  obtain ⟨b8, hb8⟩ : ∃ b, mbit C wm ((1 : Int), ((C : Int) - 1 : Int)) = b := ⟨_, rfl⟩
  rw [hb8]
  obtain ⟨A8, hA8⟩ : ∃ A, 2 * A7 + b8.toNat = A := ⟨_, rfl⟩
  have l8 : A8 < 256 := by have := toNat_le b8; omega
  have oe := or_even A7 (by omega)
  have HB8 := Lib.hid hb8; clear hb8
  go_upto_if 85 with fail
  go_cut [7] from 8 (fun s wx => s = .int .u8 (A8 : Int) ∧ wx = w8)
  case first =>
    cases b8
    · go_wp2
      go_meet
      case rel => exact ⟨by rw [← hA8]; exact val_int (by show _ = ((2 * A7 + 0 : Nat) : Int); omega), rfl⟩
    · go_wp2
      go_meet
      case rel => exact ⟨by rw [← hA8]; exact val_int (by show _ = ((2 * A7 + 1 : Nat) : Int); omega), rfl⟩
  obtain ⟨hs, hw⟩ := hcut
  subst hs
  rw [hw]
  clear hw wc
  clear oe
  go_wp2
  go_ret
  refine ⟨?_, by rw [← HV.out]; exact P8.out, B8.out, S8.out⟩
  show Ending.returned (.int .u8 (A8 : Int)) = _
  refine ret_int ?_
  unfold rdB
  simp only [List.foldl_cons, List.foldl_nil]
  rw [HB1.out, HB2.out, HB3.out, HB4.out, HB5.out, HB6.out, HB7.out, HB8.out, hA1, hA2, hA3, hA4, hA5, hA6, hA7, hA8]

set_option maxRecDepth 100000 in
set_option maxHeartbeats 2000000 in
theorem rdCorn4 (w : World) (t pm bm pr br pv R C : Nat) (wm : Nat → Nat) (V V' : Nat) (h : Ps w t pm bm pr br pv R C wm V)
    (ht : take8 R C (corn4 R C) V = some V') :
    Calls Tryz.prog 85 #[pt t, .int .i64 R, .int .i64 C] w (RdPost w t pm bm pr br pv R C wm V' (corn4 R C)) := by
  have hR := h.mm.h1
  have hC := h.mm.w1
  unfold corn4 at ht ⊢
  obtain ⟨i1, ht⟩ := take8_cons ht
  obtain ⟨i2, ht⟩ := take8_cons ht
  obtain ⟨i3, ht⟩ := take8_cons ht
  obtain ⟨i4, ht⟩ := take8_cons ht
  obtain ⟨i5, ht⟩ := take8_cons ht
  obtain ⟨i6, ht⟩ := take8_cons ht
  obtain ⟨i7, ht⟩ := take8_cons ht
  obtain ⟨i8, ht⟩ := take8_cons ht
  have hV := take8_nil ht; clear ht
  have HV := Lib.hid hV; clear hV
  have I1 := Lib.hid i1; clear i1
  have I2 := Lib.hid i2; clear i2
  have I3 := Lib.hid i3; clear i3
  have I4 := Lib.hid i4; clear i4
  have I5 := Lib.hid i5; clear i5
  have I6 := Lib.hid i6; clear i6
  have I7 := Lib.hid i7; clear i7
  have I8 := Lib.hid i8; clear i8
  have P0 := Lib.hid h; clear h
  have B0 : Hid (But (· = br) w w) := Lib.hid (But.refl _ _)
  go_enter Tryz.func85, Tryz.ntmps85
  go_wp2_with fail
  refine (readModN w t pm bm pr br pv R C wm _ _ _ P0.out I1.out).mono ?_
  rintro e w1 ⟨rfl, hP, hB, hS⟩
  have P1 := Lib.hid hP; clear hP P0
  have B1 := Lib.hid (B0.out.trans hB); clear hB B0
  have S1 : Hid (w1.heap.size = w.heap.size) := Lib.hid (hS); clear hS
  obtain ⟨b1, hb1⟩ : ∃ b, mbit C wm (((R : Int) - 3 : Int), (0 : Int)) = b := ⟨_, rfl⟩
  rw [hb1]
  obtain ⟨A1, hA1⟩ : ∃ A, 2 * 0 + b1.toNat = A := ⟨_, rfl⟩
  have l1 : A1 < 2 := by have := toNat_le b1; omega
  have HB1 := Lib.hid hb1; clear hb1
  go_upto_if 13 with fail
  go_cut [7] from 8 (fun s wx => s = .int .u8 (A1 : Int) ∧ wx = w1)
  case first =>
    cases b1
    · go_wp2
      go_meet
      case rel => exact ⟨by rw [← hA1]; rfl, rfl⟩
    · go_wp2
      go_meet
      case rel => exact ⟨by rw [← hA1]; rfl, rfl⟩
  obtain ⟨hs, hw⟩ := hcut
  subst hs
  rw [hw]
  clear hw wc
  go_wp2_with fail
  refine (readModN w1 t pm bm pr br pv R C wm _ _ _ P1.out I2.out).mono ?_
  rintro e w2 ⟨rfl, hP, hB, hS⟩
  have P2 := Lib.hid hP; clear hP P1
  have B2 := Lib.hid (B1.out.trans hB); clear hB B1
  have S2 : Hid (w2.heap.size = w.heap.size) := Lib.hid (hS.trans S1.out); clear hS
  obtain ⟨b2, hb2⟩ : ∃ b, mbit C wm (((R : Int) - 2 : Int), (0 : Int)) = b := ⟨_, rfl⟩
  rw [hb2]
  obtain ⟨A2, hA2⟩ : ∃ A, 2 * A1 + b2.toNat = A := ⟨_, rfl⟩
  have l2 : A2 < 4 := by have := toNat_le b2; omega
  have oe := or_even A1 (by omega)
  have HB2 := Lib.hid hb2; clear hb2
  go_upto_if 23 with fail
  go_cut [7] from 8 (fun s wx => s = .int .u8 (A2 : Int) ∧ wx = w2)
  case first =>
    cases b2
    · go_wp2
      go_meet
      case rel => exact ⟨by rw [← hA2]; exact val_int (by show _ = ((2 * A1 + 0 : Nat) : Int); omega), rfl⟩
    · go_wp2
      go_meet
      case rel => exact ⟨by rw [← hA2]; exact val_int (by show _ = ((2 * A1 + 1 : Nat) : Int); omega), rfl⟩
  obtain ⟨hs, hw⟩ := hcut
  subst hs
  rw [hw]
  clear hw wc
  clear oe
  go_wp2_with fail
  refine (readModN w2 t pm bm pr br pv R C wm _ _ _ P2.out I3.out).mono ?_
  rintro e w3 ⟨rfl, hP, hB, hS⟩
  have P3 := Lib.hid hP; clear hP P2
  have B3 := Lib.hid (B2.out.trans hB); clear hB B2
  have S3 : Hid (w3.heap.size = w.heap.size) := Lib.hid (hS.trans S2.out); clear hS
  obtain ⟨b3, hb3⟩ : ∃ b, mbit C wm (((R : Int) - 1 : Int), (0 : Int)) = b := ⟨_, rfl⟩
  rw [hb3]
  obtain ⟨A3, hA3⟩ : ∃ A, 2 * A2 + b3.toNat = A := ⟨_, rfl⟩
  have l3 : A3 < 8 := by have := toNat_le b3; omega
  have oe := or_even A2 (by omega)
  have HB3 := Lib.hid hb3; clear hb3
  go_upto_if 33 with fail
  go_cut [7] from 8 (fun s wx => s = .int .u8 (A3 : Int) ∧ wx = w3)
  case first =>
    cases b3
    · go_wp2
      go_meet
      case rel => exact ⟨by rw [← hA3]; exact val_int (by show _ = ((2 * A2 + 0 : Nat) : Int); omega), rfl⟩
    · go_wp2
      go_meet
      case rel => exact ⟨by rw [← hA3]; exact val_int (by show _ = ((2 * A2 + 1 : Nat) : Int); omega), rfl⟩
  obtain ⟨hs, hw⟩ := hcut
  subst hs
  rw [hw]
  clear hw wc
  clear oe
  go_wp2_with fail
  refine (readModN w3 t pm bm pr br pv R C wm _ _ _ P3.out I4.out).mono ?_
  rintro e w4 ⟨rfl, hP, hB, hS⟩
  have P4 := Lib.hid hP; clear hP P3
  have B4 := Lib.hid (B3.out.trans hB); clear hB B3
  have S4 : Hid (w4.heap.size = w.heap.size) := Lib.hid (hS.trans S3.out); clear hS
  obtain ⟨b4, hb4⟩ : ∃ b, mbit C wm ((0 : Int), ((C : Int) - 2 : Int)) = b := ⟨_, rfl⟩
  rw [hb4]
  obtain ⟨A4, hA4⟩ : ∃ A, 2 * A3 + b4.toNat = A := ⟨_, rfl⟩
  have l4 : A4 < 16 := by have := toNat_le b4; omega
  have oe := or_even A3 (by omega)
  have HB4 := Lib.hid hb4; clear hb4
  go_upto_if 43 with fail
  go_cut [7] from 8 (fun s wx => s = .int .u8 (A4 : Int) ∧ wx = w4)
  case first =>
    cases b4
    · go_wp2
      go_meet
      case rel => exact ⟨by rw [← hA4]; exact val_int (by show _ = ((2 * A3 + 0 : Nat) : Int); omega), rfl⟩
    · go_wp2
      go_meet
      case rel => exact ⟨by rw [← hA4]; exact val_int (by show _ = ((2 * A3 + 1 : Nat) : Int); omega), rfl⟩
  obtain ⟨hs, hw⟩ := hcut
  subst hs
  rw [hw]
  clear hw wc
  clear oe
  go_wp2_with fail
  refine (readModN w4 t pm bm pr br pv R C wm _ _ _ P4.out I5.out).mono ?_
  rintro e w5 ⟨rfl, hP, hB, hS⟩
  have P5 := Lib.hid hP; clear hP P4
  have B5 := Lib.hid (B4.out.trans hB); clear hB B4
  have S5 : Hid (w5.heap.size = w.heap.size) := Lib.hid (hS.trans S4.out); clear hS
  obtain ⟨b5, hb5⟩ : ∃ b, mbit C wm ((0 : Int), ((C : Int) - 1 : Int)) = b := ⟨_, rfl⟩
  rw [hb5]
  obtain ⟨A5, hA5⟩ : ∃ A, 2 * A4 + b5.toNat = A := ⟨_, rfl⟩
  have l5 : A5 < 32 := by have := toNat_le b5; omega
  have oe := or_even A4 (by omega)
  have HB5 := Lib.hid hb5; clear hb5
  go_upto_if 53 with fail
  go_cut [7] from 8 (fun s wx => s = .int .u8 (A5 : Int) ∧ wx = w5)
  case first =>
    cases b5
    · go_wp2
      go_meet
      case rel => exact ⟨by rw [← hA5]; exact val_int (by show _ = ((2 * A4 + 0 : Nat) : Int); omega), rfl⟩
    · go_wp2
      go_meet
      case rel => exact ⟨by rw [← hA5]; exact val_int (by show _ = ((2 * A4 + 1 : Nat) : Int); omega), rfl⟩
  obtain ⟨hs, hw⟩ := hcut
  subst hs
  rw [hw]
  clear hw wc
  clear oe
  go_wp2_with fail
  refine (readModN w5 t pm bm pr br pv R C wm _ _ _ P5.out I6.out).mono ?_
  rintro e w6 ⟨rfl, hP, hB, hS⟩
  have P6 := Lib.hid hP; clear hP P5
  have B6 := Lib.hid (B5.out.trans hB); clear hB B5
  have S6 : Hid (w6.heap.size = w.heap.size) := Lib.hid (hS.trans S5.out); clear hS
  obtain ⟨b6, hb6⟩ : ∃ b, mbit C wm ((1 : Int), ((C : Int) - 1 : Int)) = b := ⟨_, rfl⟩
  rw [hb6]
  obtain ⟨A6, hA6⟩ : ∃ A, 2 * A5 + b6.toNat = A := ⟨_, rfl⟩
  have l6 : A6 < 64 := by have := toNat_le b6; omega
  have oe := or_even A5 (by omega)
  have HB6 := Lib.hid hb6; clear hb6
  go_upto_if 63 with fail
  go_cut [7] from 8 (fun s wx => s = .int .u8 (A6 : Int) ∧ wx = w6)
  case first =>
    cases b6
    · go_wp2
      go_meet
      case rel => exact ⟨by rw [← hA6]; exact val_int (by show _ = ((2 * A5 + 0 : Nat) : Int); omega), rfl⟩
    · go_wp2
      go_meet
      case rel => exact ⟨by rw [← hA6]; exact val_int (by show _ = ((2 * A5 + 1 : Nat) : Int); omega), rfl⟩
  obtain ⟨hs, hw⟩ := hcut
  subst hs
  rw [hw]
  clear hw wc
  clear oe
  go_wp2_with fail
  refine (readModN w6 t pm bm pr br pv R C wm _ _ _ P6.out I7.out).mono ?_
  rintro e w7 ⟨rfl, hP, hB, hS⟩
  have P7 := Lib.hid hP; clear hP P6
  have B7 := Lib.hid (B6.out.trans hB); clear hB B6
  have S7 : Hid (w7.heap.size = w.heap.size) := Lib.hid (hS.trans S6.out); clear hS
  obtain ⟨b7, hb7⟩ : ∃ b, mbit C wm ((2 : Int), ((C : Int) - 1 : Int)) = b := ⟨_, rfl⟩
  rw [hb7]
  obtain ⟨A7, hA7⟩ : ∃ A, 2 * A6 + b7.toNat = A := ⟨_, rfl⟩
  have l7 : A7 < 128 := by have := toNat_le b7; omega
  have oe := or_even A6 (by omega)
  have HB7 := Lib.hid hb7; clear hb7
  go_upto_if 73 with fail
  go_cut [7] from 8 (fun s wx => s = .int .u8 (A7 : Int) ∧ wx = w7)
  case first =>
    cases b7
    · go_wp2
      go_meet
      case rel => exact ⟨by rw [← hA7]; exact val_int (by show _ = ((2 * A6 + 0 : Nat) : Int); omega), rfl⟩
    · go_wp2
      go_meet
      case rel => exact ⟨by rw [← hA7]; exact val_int (by show _ = ((2 * A6 + 1 : Nat) : Int); omega), rfl⟩
  obtain ⟨hs, hw⟩ := hcut
  subst hs
  rw [hw]
  clear hw wc
  clear oe
  go_wp2_with fail
  refine (readModN w7 t pm bm pr br pv R C wm _ _ _ P7.out I8.out).mono ?_
  rintro e w8 ⟨rfl, hP, hB, hS⟩
  have P8 := Lib.hid hP; clear hP P7
  have B8 := Lib.hid (B7.out.trans hB); clear hB B7
  have S8 : Hid (w8.heap.size = w.heap.size) := Lib.hid (hS.trans S7.out); clear hS
  obtain ⟨b8, hb8⟩ : ∃ b, mbit C wm ((3 : Int), ((C : Int) - 1 : Int)) = b := ⟨_, rfl⟩
  rw [hb8]
  obtain ⟨A8, hA8⟩ : ∃ A, 2 * A7 + b8.toNat = A := ⟨_, rfl⟩
  have l8 : A8 < 256 := by have := toNat_le b8; omega
  have oe := or_even A7 (by omega)
  have HB8 := Lib.hid hb8; clear hb8
  go_upto_if 83 with fail
  go_cut [7] from 8 (fun s wx => s = .int .u8 (A8 : Int) ∧ wx = w8)
  case first =>
    cases b8
    · go_wp2
      go_meet
      case rel => exact ⟨by rw [← hA8]; exact val_int (by show _ = ((2 * A7 + 0 : Nat) : Int); omega), rfl⟩
    · go_wp2
      go_meet
      case rel => exact ⟨by rw [← hA8]; exact val_int (by show _ = ((2 * A7 + 1 : Nat) : Int); omega), rfl⟩
  obtain ⟨hs, hw⟩ := hcut
  subst hs
  rw [hw]
  clear hw wc
  clear oe
  go_wp2
  go_ret
  refine ⟨?_, by rw [← HV.out]; exact P8.out, B8.out, S8.out⟩
  show Ending.returned (.int .u8 (A8 : Int)) = _
  refine ret_int ?_
  unfold rdB
  simp only [List.foldl_cons, List.foldl_nil]
  rw [HB1.out, HB2.out, HB3.out, HB4.out, HB5.out, HB6.out, HB7.out, HB8.out, hA1, hA2, hA3, hA4, hA5, hA6, hA7, hA8]

set_option maxRecDepth 100000 in
set_option maxHeartbeats 2000000 in
theorem rdUtah (w : World) (t pm bm pr br pv R C : Nat) (wm : Nat → Nat) (V V' : Nat) (row col : Int) (h : Ps w t pm bm pr br pv R C wm V) (hr : -90 ≤ row ∧ row ≤ 990) (hc : -90 ≤ col ∧ col ≤ 990)
    (ht : take8 R C (utahS R C row col) V = some V') :
    Calls Tryz.prog 86 #[pt t, .int .i64 row, .int .i64 col, .int .i64 R, .int .i64 C] w (RdPost w t pm bm pr br pv R C wm V' (utahS R C row col)) := by
  have hR := h.mm.h1
  have hC := h.mm.w1
  unfold utahS at ht ⊢
  obtain ⟨i1, ht⟩ := take8_cons ht
  obtain ⟨i2, ht⟩ := take8_cons ht
  obtain ⟨i3, ht⟩ := take8_cons ht
  obtain ⟨i4, ht⟩ := take8_cons ht
  obtain ⟨i5, ht⟩ := take8_cons ht
  obtain ⟨i6, ht⟩ := take8_cons ht
  obtain ⟨i7, ht⟩ := take8_cons ht
  obtain ⟨i8, ht⟩ := take8_cons ht
  have hV := take8_nil ht; clear ht
  have HV := Lib.hid hV; clear hV
  have I1 := Lib.hid i1; clear i1
  have I2 := Lib.hid i2; clear i2
  have I3 := Lib.hid i3; clear i3
  have I4 := Lib.hid i4; clear i4
  have I5 := Lib.hid i5; clear i5
  have I6 := Lib.hid i6; clear i6
  have I7 := Lib.hid i7; clear i7
  have I8 := Lib.hid i8; clear i8
  have P0 := Lib.hid h; clear h
  have B0 : Hid (But (· = br) w w) := Lib.hid (But.refl _ _)
  go_enter Tryz.func86, Tryz.ntmps86
  go_wp2_with fail
  refine (readMod w t pm bm pr br pv R C wm _ _ _ P0.out (by omega) (by omega) I1.out).mono ?_
  rintro e w1 ⟨rfl, hP, hB, hS⟩
  have P1 := Lib.hid hP; clear hP P0
  have B1 := Lib.hid (B0.out.trans hB); clear hB B0
  have S1 : Hid (w1.heap.size = w.heap.size) := Lib.hid (hS); clear hS
  obtain ⟨b1, hb1⟩ : ∃ b, mbit C wm (adj R C (row - 2, col - 2)) = b := ⟨_, rfl⟩
  rw [hb1]
  obtain ⟨A1, hA1⟩ : ∃ A, 2 * 0 + b1.toNat = A := ⟨_, rfl⟩
  have l1 : A1 < 2 := by have := toNat_le b1; omega
  have HB1 := Lib.hid hb1; clear hb1
  go_upto_if 19 with fail
  go_cut [11] from 12 (fun s wx => s = .int .u8 (A1 : Int) ∧ wx = w1)
  case first =>
    cases b1
    · go_wp2
      go_meet
      case rel => exact ⟨by rw [← hA1]; rfl, rfl⟩
    · go_wp2
      go_meet
      case rel => exact ⟨by rw [← hA1]; rfl, rfl⟩
  obtain ⟨hs, hw⟩ := hcut
  subst hs
  rw [hw]
  clear hw wc
  go_wp2_with fail
  refine (readMod w1 t pm bm pr br pv R C wm _ _ _ P1.out (by omega) (by omega) I2.out).mono ?_
  rintro e w2 ⟨rfl, hP, hB, hS⟩
  have P2 := Lib.hid hP; clear hP P1
  have B2 := Lib.hid (B1.out.trans hB); clear hB B1
  have S2 : Hid (w2.heap.size = w.heap.size) := Lib.hid (hS.trans S1.out); clear hS
  obtain ⟨b2, hb2⟩ : ∃ b, mbit C wm (adj R C (row - 2, col - 1)) = b := ⟨_, rfl⟩
  rw [hb2]
  obtain ⟨A2, hA2⟩ : ∃ A, 2 * A1 + b2.toNat = A := ⟨_, rfl⟩
  have l2 : A2 < 4 := by have := toNat_le b2; omega
  have oe := or_even A1 (by omega)
  have HB2 := Lib.hid hb2; clear hb2
  go_upto_if 31 with fail
  go_cut [11] from 12 (fun s wx => s = .int .u8 (A2 : Int) ∧ wx = w2)
  case first =>
    cases b2
    · go_wp2
      go_meet
      case rel => exact ⟨by rw [← hA2]; exact val_int (by show _ = ((2 * A1 + 0 : Nat) : Int); omega), rfl⟩
    · go_wp2
      go_meet
      case rel => exact ⟨by rw [← hA2]; exact val_int (by show _ = ((2 * A1 + 1 : Nat) : Int); omega), rfl⟩
  obtain ⟨hs, hw⟩ := hcut
  subst hs
  rw [hw]
  clear hw wc
  clear oe
  go_wp2_with fail
  refine (readMod w2 t pm bm pr br pv R C wm _ _ _ P2.out (by omega) (by omega) I3.out).mono ?_
  rintro e w3 ⟨rfl, hP, hB, hS⟩
  have P3 := Lib.hid hP; clear hP P2
  have B3 := Lib.hid (B2.out.trans hB); clear hB B2
  have S3 : Hid (w3.heap.size = w.heap.size) := Lib.hid (hS.trans S2.out); clear hS
  obtain ⟨b3, hb3⟩ : ∃ b, mbit C wm (adj R C (row - 1, col - 2)) = b := ⟨_, rfl⟩
  rw [hb3]
  obtain ⟨A3, hA3⟩ : ∃ A, 2 * A2 + b3.toNat = A := ⟨_, rfl⟩
  have l3 : A3 < 8 := by have := toNat_le b3; omega
  have oe := or_even A2 (by omega)
  have HB3 := Lib.hid hb3; clear hb3
  go_upto_if 43 with fail
  go_cut [11] from 12 (fun s wx => s = .int .u8 (A3 : Int) ∧ wx = w3)
  case first =>
    cases b3
    · go_wp2
      go_meet
      case rel => exact ⟨by rw [← hA3]; exact val_int (by show _ = ((2 * A2 + 0 : Nat) : Int); omega), rfl⟩
    · go_wp2
      go_meet
      case rel => exact ⟨by rw [← hA3]; exact val_int (by show _ = ((2 * A2 + 1 : Nat) : Int); omega), rfl⟩
  obtain ⟨hs, hw⟩ := hcut
  subst hs
  rw [hw]
  clear hw wc
  clear oe
  go_wp2_with fail
  refine (readMod w3 t pm bm pr br pv R C wm _ _ _ P3.out (by omega) (by omega) I4.out).mono ?_
  rintro e w4 ⟨rfl, hP, hB, hS⟩
  have P4 := Lib.hid hP; clear hP P3
  have B4 := Lib.hid (B3.out.trans hB); clear hB B3
  have S4 : Hid (w4.heap.size = w.heap.size) := Lib.hid (hS.trans S3.out); clear hS
  obtain ⟨b4, hb4⟩ : ∃ b, mbit C wm (adj R C (row - 1, col - 1)) = b := ⟨_, rfl⟩
  rw [hb4]
  obtain ⟨A4, hA4⟩ : ∃ A, 2 * A3 + b4.toNat = A := ⟨_, rfl⟩
  have l4 : A4 < 16 := by have := toNat_le b4; omega
  have oe := or_even A3 (by omega)
  have HB4 := Lib.hid hb4; clear hb4
  go_upto_if 55 with fail
  go_cut [11] from 12 (fun s wx => s = .int .u8 (A4 : Int) ∧ wx = w4)
  case first =>
    cases b4
    · go_wp2
      go_meet
      case rel => exact ⟨by rw [← hA4]; exact val_int (by show _ = ((2 * A3 + 0 : Nat) : Int); omega), rfl⟩
    · go_wp2
      go_meet
      case rel => exact ⟨by rw [← hA4]; exact val_int (by show _ = ((2 * A3 + 1 : Nat) : Int); omega), rfl⟩
  obtain ⟨hs, hw⟩ := hcut
  subst hs
  rw [hw]
  clear hw wc
  clear oe
  go_wp2_with fail
  refine (readMod w4 t pm bm pr br pv R C wm _ _ _ P4.out (by omega) (by omega) I5.out).mono ?_
  rintro e w5 ⟨rfl, hP, hB, hS⟩
  have P5 := Lib.hid hP; clear hP P4
  have B5 := Lib.hid (B4.out.trans hB); clear hB B4
  have S5 : Hid (w5.heap.size = w.heap.size) := Lib.hid (hS.trans S4.out); clear hS
  obtain ⟨b5, hb5⟩ : ∃ b, mbit C wm (adj R C (row - 1, col)) = b := ⟨_, rfl⟩
  rw [hb5]
  obtain ⟨A5, hA5⟩ : ∃ A, 2 * A4 + b5.toNat = A := ⟨_, rfl⟩
  have l5 : A5 < 32 := by have := toNat_le b5; omega
  have oe := or_even A4 (by omega)
  have HB5 := Lib.hid hb5; clear hb5
  go_upto_if 66 with fail
  go_cut [11] from 12 (fun s wx => s = .int .u8 (A5 : Int) ∧ wx = w5)
  case first =>
    cases b5
    · go_wp2
      go_meet
      case rel => exact ⟨by rw [← hA5]; exact val_int (by show _ = ((2 * A4 + 0 : Nat) : Int); omega), rfl⟩
    · go_wp2
      go_meet
      case rel => exact ⟨by rw [← hA5]; exact val_int (by show _ = ((2 * A4 + 1 : Nat) : Int); omega), rfl⟩
  obtain ⟨hs, hw⟩ := hcut
  subst hs
  rw [hw]
  clear hw wc
  clear oe
  go_wp2_with fail
  refine (readMod w5 t pm bm pr br pv R C wm _ _ _ P5.out (by omega) (by omega) I6.out).mono ?_
  rintro e w6 ⟨rfl, hP, hB, hS⟩
  have P6 := Lib.hid hP; clear hP P5
  have B6 := Lib.hid (B5.out.trans hB); clear hB B5
  have S6 : Hid (w6.heap.size = w.heap.size) := Lib.hid (hS.trans S5.out); clear hS
  obtain ⟨b6, hb6⟩ : ∃ b, mbit C wm (adj R C (row, col - 2)) = b := ⟨_, rfl⟩
  rw [hb6]
  obtain ⟨A6, hA6⟩ : ∃ A, 2 * A5 + b6.toNat = A := ⟨_, rfl⟩
  have l6 : A6 < 64 := by have := toNat_le b6; omega
  have oe := or_even A5 (by omega)
  have HB6 := Lib.hid hb6; clear hb6
  go_upto_if 77 with fail
  go_cut [11] from 12 (fun s wx => s = .int .u8 (A6 : Int) ∧ wx = w6)
  case first =>
    cases b6
    · go_wp2
      go_meet
      case rel => exact ⟨by rw [← hA6]; exact val_int (by show _ = ((2 * A5 + 0 : Nat) : Int); omega), rfl⟩
    · go_wp2
      go_meet
      case rel => exact ⟨by rw [← hA6]; exact val_int (by show _ = ((2 * A5 + 1 : Nat) : Int); omega), rfl⟩
  obtain ⟨hs, hw⟩ := hcut
  subst hs
  rw [hw]
  clear hw wc
  clear oe
  go_wp2_with fail
  refine (readMod w6 t pm bm pr br pv R C wm _ _ _ P6.out (by omega) (by omega) I7.out).mono ?_
  rintro e w7 ⟨rfl, hP, hB, hS⟩
  have P7 := Lib.hid hP; clear hP P6
  have B7 := Lib.hid (B6.out.trans hB); clear hB B6
  have S7 : Hid (w7.heap.size = w.heap.size) := Lib.hid (hS.trans S6.out); clear hS
  obtain ⟨b7, hb7⟩ : ∃ b, mbit C wm (adj R C (row, col - 1)) = b := ⟨_, rfl⟩
  rw [hb7]
  obtain ⟨A7, hA7⟩ : ∃ A, 2 * A6 + b7.toNat = A := ⟨_, rfl⟩
  have l7 : A7 < 128 := by have := toNat_le b7; omega
  have oe := or_even A6 (by omega)
  have HB7 := Lib.hid hb7; clear hb7
  go_upto_if 88 with fail
  go_cut [11] from 12 (fun s wx => s = .int .u8 (A7 : Int) ∧ wx = w7)
  case first =>
    cases b7
    · go_wp2
      go_meet
      case rel => exact ⟨by rw [← hA7]; exact val_int (by show _ = ((2 * A6 + 0 : Nat) : Int); omega), rfl⟩
    · go_wp2
      go_meet
      case rel => exact ⟨by rw [← hA7]; exact val_int (by show _ = ((2 * A6 + 1 : Nat) : Int); omega), rfl⟩
  obtain ⟨hs, hw⟩ := hcut
  subst hs
  rw [hw]
  clear hw wc
  clear oe
  go_wp2_with fail
  refine (readMod w7 t pm bm pr br pv R C wm _ _ _ P7.out (by omega) (by omega) I8.out).mono ?_
  rintro e w8 ⟨rfl, hP, hB, hS⟩
  have P8 := Lib.hid hP; clear hP P7
  have B8 := Lib.hid (B7.out.trans hB); clear hB B7
  have S8 : Hid (w8.heap.size = w.heap.size) := Lib.hid (hS.trans S7.out); clear hS
  obtain ⟨b8, hb8⟩ : ∃ b, mbit C wm (adj R C (row, col)) = b := ⟨_, rfl⟩
  rw [hb8]
  obtain ⟨A8, hA8⟩ : ∃ A, 2 * A7 + b8.toNat = A := ⟨_, rfl⟩
  have l8 : A8 < 256 := by have := toNat_le b8; omega
  have oe := or_even A7 (by omega)
  have HB8 := Lib.hid hb8; clear hb8
  go_upto_if 98 with fail
  go_cut [11] from 12 (fun s wx => s = .int .u8 (A8 : Int) ∧ wx = w8)
  case first =>
    cases b8
    · go_wp2
      go_meet
      case rel => exact ⟨by rw [← hA8]; exact val_int (by show _ = ((2 * A7 + 0 : Nat) : Int); omega), rfl⟩
    · go_wp2
      go_meet
      case rel => exact ⟨by rw [← hA8]; exact val_int (by show _ = ((2 * A7 + 1 : Nat) : Int); omega), rfl⟩
  obtain ⟨hs, hw⟩ := hcut
  subst hs
  rw [hw]
  clear hw wc
  clear oe
  go_wp2
  go_ret
  refine ⟨?_, by rw [← HV.out]; exact P8.out, B8.out, S8.out⟩
  show Ending.returned (.int .u8 (A8 : Int)) = _
  refine ret_int ?_
  unfold rdB
  simp only [List.foldl_cons, List.foldl_nil]
  rw [HB1.out, HB2.out, HB3.out, HB4.out, HB5.out, HB6.out, HB7.out, HB8.out, hA1, hA2, hA3, hA4, hA5, hA6, hA7, hA8]
end Go.Proofs.YtcnallabiffemaaGreatDoor
