import Derived.IntWalk
import Derived.Lib.ItoaNum
import Derived.Lib.ItoaWalk
import Derived.Lib.Strings
import Derived.Test.YtcnallabiffemaaGreatDoorM02
import Derived.Test.YtcnallabiffemaaGreatDoorM04
/- Part of the proof that a Data Matrix symbol of a text, damaged at most to half of its check codewords in each block, is decoded to the text (FnDecode): texts Bs Dt Tx Sg S1. -/
set_option linter.unusedVariables false
set_option linter.unusedSimpArgs false
namespace Go.Proofs.YtcnallabiffemaaGreatDoor
open Go.RowKit (wrap32 wrap64 intOf Hid Below)
open Zx

def srcBox (bb n i o : Nat) : Nat → Value := fun j => if j = 0 then .slice (some ⟨bb, 0, none⟩) n n else if j = 1 then .int .i64 i else .int .i64 o

/-- a source of bits: n bytes d, at byte i and bit o -/
structure Src (w : World) (s bb n i o : Nat) (d : Nat → Nat) : Prop where
  box : w.rowIs s 248 3 (srcBox bb n i o)
  row : w.rowIs bb 5 n (fun j => .int .u8 (d j))
  lt : ∀ j, j < n → d j < 256
  n1 : n ≤ 5000
  ne : s ≠ bb

def SrcTo (w : World) (s bb n i o : Nat) (d : Nat → Nat) (r : Nat) (e : Ending) (w' : World) : Prop :=
  e = .returned (.tuple #[.int .i64 r, .nilIface]) ∧ Src w' s bb n i o d ∧ But (· = s) w w' ∧ w'.heap.size = w.heap.size

theorem newSrc (w : World) (bb n : Nat) (d : Nat → Nat) (hr : w.rowIs bb 5 n (fun j => .int .u8 (d j))) (hl : ∀ j, j < n → d j < 256) (hn : n ≤ 5000) :
    Calls Tryz.prog 95 #[.slice (some ⟨bb, 0, none⟩) n n] w fun e w' => e = .returned (pt w.heap.size) ∧ Src w' w.heap.size bb n 0 0 d ∧ w'.heap.size = w.heap.size + 1 ∧ Below w.heap.size w w' := by
  have hlt := hr.lt
  have HR := Lib.hid hr; clear hr
  go_enter Tryz.func95, Tryz.ntmps95
  go_wp2
  go_ret
  refine ⟨rfl, ⟨World.rowIs_alloc w _ _ _ (fun i hi' => ?_), HR.out.alloc _, hl, hn, by omega⟩, by rw [World.size_alloc], (Below.refl _ _).alloc (Nat.le_refl _) _⟩
  match i, hi' with
  | 0, _ => rfl
  | 1, _ => rfl
  | 2, _ => rfl
  | n + 3, h => exact absurd h (by simp)

theorem avail (w : World) (s bb n i o : Nat) (d : Nat → Nat) (h : Src w s bb n i o d) (hi' : i ≤ n) (ho : o < 8) :
    Calls Tryz.prog 96 #[pt s] w fun e w' => e = .returned (.int .i64 (8 * ((n : Int) - i) - o)) ∧ ∃ m, w' = w.drewN m := by
  have b0 : w.cell? ⟨s, 0, none⟩ = some (.slice (some ⟨bb, 0, none⟩) n n) := h.box.cell (i := 0) (by omega)
  have b1 : w.cell? ⟨s, 1, none⟩ = some (.int .i64 i) := h.box.cell (i := 1) (by omega)
  have b2 : w.cell? ⟨s, 2, none⟩ = some (.int .i64 o) := h.box.cell (i := 2) (by omega)
  have hn := h.n1
  clear h
  go_enter Tryz.func96, Tryz.ntmps96
  go_wp2_with fail
  go_quiet (fail)
  go_wp2
  go_ret
  exact ⟨rfl, _, rfl⟩

set_option maxRecDepth 100000 in
theorem rb8 (w : World) (s bb n i : Nat) (d : Nat → Nat) (h : Src w s bb n i 0 d) (hi' : i < n) :
    Calls Tryz.prog 175 #[pt s, .int .i64 8] w (SrcTo w s bb n (i + 1) 0 d (d i)) := by
  have b0 : w.cell? ⟨s, 0, none⟩ = some (.slice (some ⟨bb, 0, none⟩) n n) := h.box.cell (i := 0) (by omega)
  have b1 : w.cell? ⟨s, 1, none⟩ = some (.int .i64 i) := h.box.cell (i := 1) (by omega)
  have b2 : w.cell? ⟨s, 2, none⟩ = some (.int .i64 (0 : Nat)) := h.box.cell (i := 2) (by omega)
  have f1 := h.box.frozen 1
  have cd := h.row.cell hi'
  have hd := h.lt i hi'
  have hn := h.n1
  have HS := Lib.hid h; clear h
  have a1 := and_u8 (d i) 255 hd (by decide)
  have a2 : d i &&& 255 = d i := by
    have h := Nat.and_two_pow_sub_one_eq_mod (d i) 8
    rw [show 2 ^ 8 - 1 = 255 from rfl] at h
    rw [h, Nat.mod_eq_of_lt hd]
  rw [a2, show ((255 : Nat) : Int) = 255 from rfl] at a1
  clear a2
  have g1 : ¬ ((8 : Int) * ((n : Int) - (i : Int)) - ((0 : Nat) : Int) < 8) := by omega
  go_enter Tryz.func175, Tryz.ntmps175
  go_wp2_with fail
  refine (avail w s bb n i 0 d HS.out (by omega) (by omega)).mono ?_
  rintro e w' ⟨rfl, m, rfl⟩
  go_wp2_with fail
  go_loopw [1, 6] (fun nb r wr => ∃ k : Nat, k ≤ 1 ∧ nb = .int .i64 (8 - 8 * (k : Int)) ∧ r = .int .i64 ((k * d i : Nat) : Int) ∧ Src wr s bb n (i + k) 0 d ∧ But (· = s) w wr ∧ wr.heap.size = w.heap.size)
    (fun nb _ _ => (intOf nb).toNat)
  case atStart => exact ⟨0, by omega, rfl, by rw [Nat.zero_mul]; rfl, ⟨HS.out.box, HS.out.row, HS.out.lt, HS.out.n1, HS.out.ne⟩, (But.refl _ _).thenDn _, rfl⟩
  case round =>
    obtain ⟨k, hk, rfl, rfl, hs, hb, hz⟩ := hrel
    have HB := Lib.hid hb; clear hb
    by_cases hk0 : k = 0
    · subst hk0
      have c0 : wr.cell? ⟨s, 0, none⟩ = some (.slice (some ⟨bb, 0, none⟩) n n) := hs.box.cell (i := 0) (by omega)
      have c1 : wr.cell? ⟨s, 1, none⟩ = some (.int .i64 i) := hs.box.cell (i := 1) (by omega)
      have cd' := hs.row.cell hi'
      have f1' := hs.box.frozen 1
      have e0 : ((0 * d i : Nat) : Int) = 0 := by rw [Nat.zero_mul]; rfl
      rw [e0]
      have o1 := or_i64 0 (d i) (by decide) (by omega)
      rw [Nat.zero_or, show ((0 : Nat) : Int) = 0 from rfl] at o1
      have HS2 := Lib.hid hs; clear hs
      go_wp2_with fail
      go_quiet (fail)
      go_wp2
      go_roundw
      case rel =>
        refine ⟨1, Nat.le_refl _, by go_num, by rw [Nat.one_mul], ⟨?_, HS2.out.row.setOther (a := ⟨s, 1, none⟩) (Ne.symm HS2.out.ne) _, HS2.out.lt, HS2.out.n1, HS2.out.ne⟩, ((HB.out).thenDn _).thenSet (a := ⟨s, 1, none⟩) (.inl rfl) _, ?_⟩
        · refine (HS2.out.box.set 1 _).congr fun j hj => ?_
          match j, hj with
          | 0, _ => rfl
          | 1, _ => rfl
          | 2, _ => rfl
          | n + 3, h => omega
        · rw [World.size_setCell]; exact hz
      case measure => simp [intOf]
    · obtain rfl : k = 1 := by omega
      have HS2 := Lib.hid hs; clear hs
      rw [show (8 : Int) - 8 * ((1 : Nat) : Int) = 0 from rfl, Nat.one_mul]
      go_wp2
      go_ret2
      exact ⟨rfl, HS2.out, HB.out, hz⟩

theorem Src.upd3 {w : World} {s bb n i o : Nat} {d : Nat → Nat} (h : Src w s bb n i o d) (m : Nat) (a : Value) :
    Src ((((w.drewN m).setCell ⟨s, 2, none⟩ a).setCell ⟨s, 2, none⟩ (.int .i64 0)).setCell ⟨s, 1, none⟩ (.int .i64 ((i : Int) + 1))) s bb n (i + 1) 0 d ∧
      But (· = s) w ((((w.drewN m).setCell ⟨s, 2, none⟩ a).setCell ⟨s, 2, none⟩ (.int .i64 0)).setCell ⟨s, 1, none⟩ (.int .i64 ((i : Int) + 1))) ∧
      ((((w.drewN m).setCell ⟨s, 2, none⟩ a).setCell ⟨s, 2, none⟩ (.int .i64 0)).setCell ⟨s, 1, none⟩ (.int .i64 ((i : Int) + 1))).heap.size = w.heap.size := by
  have b0 : (w.drewN m).rowIs s 248 3 (srcBox bb n i o) := h.box
  have r0 : (w.drewN m).rowIs bb 5 n (fun j => .int .u8 (d j)) := h.row
  refine ⟨⟨?_, ((r0.setOther (a := ⟨s, 2, none⟩) (Ne.symm h.ne) _).setOther (a := ⟨s, 2, none⟩) (Ne.symm h.ne) _).setOther (a := ⟨s, 1, none⟩) (Ne.symm h.ne) _, h.lt, h.n1, h.ne⟩,
    ((((But.refl (· = s) w).thenDn m).thenSet (a := ⟨s, 2, none⟩) (.inl rfl) _).thenSet (a := ⟨s, 2, none⟩) (.inl rfl) _).thenSet (a := ⟨s, 1, none⟩) (.inl rfl) _, by rw [World.size_setCell, World.size_setCell, World.size_setCell]; rfl⟩
  refine (((b0.set 2 _).set 2 _).set 1 _).congr fun j hj => ?_
  match j, hj with
  | 0, _ => rfl
  | 1, _ => rfl
  | 2, _ => rfl
  | n + 3, h => omega

theorem and_lo (o : Nat) (v : Nat) (hv : v < 256) (ho : o ≤ 8) : bits .and .u8 (v : Int) ((2 ^ (8 - o) - 1 : Nat) : Int) = ((v % 2 ^ (8 - o) : Nat) : Int) := by
  rw [and_u8 v _ hv (Nat.lt_of_lt_of_le (Nat.sub_lt (Nat.two_pow_pos _) (by decide)) (Nat.pow_le_pow_right (by decide) (Nat.sub_le 8 o))), Nat.and_two_pow_sub_one_eq_mod]
theorem and_hi : ∀ v, v < 256 → (v &&& 252) / 4 = v / 4 ∧ (v &&& 240) / 16 = v / 16 ∧ (v &&& 192) / 64 = v / 64 := by decide +kernel
theorem and_hi2 (v m : Nat) (hv : v < 256) (hm : m < 256) : bits .and .u8 (v : Int) (m : Int) = ((v &&& m : Nat) : Int) := and_u8 v m hv hm

set_option maxRecDepth 100000 in
theorem rbLow2 (w : World) (s bb n i : Nat) (d : Nat → Nat) (h : Src w s bb n i 2 d) (hi' : i < n) :
    Calls Tryz.prog 175 #[pt s, .int .i64 6] w (SrcTo w s bb n (i + 1) 0 d (d i % 64)) := by
  have b0 : w.cell? ⟨s, 0, none⟩ = some (.slice (some ⟨bb, 0, none⟩) n n) := h.box.cell (i := 0) (by omega)
  have b1 : w.cell? ⟨s, 1, none⟩ = some (.int .i64 i) := h.box.cell (i := 1) (by omega)
  have b2 : w.cell? ⟨s, 2, none⟩ = some (.int .i64 2) := h.box.cell (i := 2) (by omega)
  have f1 := h.box.frozen 1
  have f2 := h.box.frozen 2
  have cd := h.row.cell hi'
  have hd := h.lt i hi'
  have hn := h.n1
  have HS := Lib.hid h; clear h
  have a1 : bits .and .u8 (d i : Int) 63 = ((d i % 64 : Nat) : Int) := and_lo 2 (d i) hd (by decide)
  have g1 : ¬ ((8 : Int) * ((n : Int) - (i : Int)) - ((2 : Nat) : Int) < 6) := by omega
  go_enter Tryz.func175, Tryz.ntmps175
  go_wp2_with fail
  refine (avail w s bb n i 2 d HS.out (by omega) (by omega)).mono ?_
  rintro e w' ⟨rfl, m, rfl⟩
  go_wp2_with fail
  go_quiet (fail)
  go_wp2_with fail
  go_ret2
  have U := HS.out.upd3 (m + nq) (.int .i64 8)
  exact ⟨by rw [Int.natCast_emod]; rfl, U⟩

set_option maxRecDepth 100000 in
theorem rbLow4 (w : World) (s bb n i : Nat) (d : Nat → Nat) (h : Src w s bb n i 4 d) (hi' : i < n) :
    Calls Tryz.prog 175 #[pt s, .int .i64 4] w (SrcTo w s bb n (i + 1) 0 d (d i % 16)) := by
  have b0 : w.cell? ⟨s, 0, none⟩ = some (.slice (some ⟨bb, 0, none⟩) n n) := h.box.cell (i := 0) (by omega)
  have b1 : w.cell? ⟨s, 1, none⟩ = some (.int .i64 i) := h.box.cell (i := 1) (by omega)
  have b2 : w.cell? ⟨s, 2, none⟩ = some (.int .i64 4) := h.box.cell (i := 2) (by omega)
  have f1 := h.box.frozen 1
  have f2 := h.box.frozen 2
  have cd := h.row.cell hi'
  have hd := h.lt i hi'
  have hn := h.n1
  have HS := Lib.hid h; clear h
  have a1 : bits .and .u8 (d i : Int) 15 = ((d i % 16 : Nat) : Int) := and_lo 4 (d i) hd (by decide)
  have g1 : ¬ ((8 : Int) * ((n : Int) - (i : Int)) - ((4 : Nat) : Int) < 4) := by omega
  go_enter Tryz.func175, Tryz.ntmps175
  go_wp2_with fail
  refine (avail w s bb n i 4 d HS.out (by omega) (by omega)).mono ?_
  rintro e w' ⟨rfl, m, rfl⟩
  go_wp2_with fail
  go_quiet (fail)
  go_wp2_with fail
  go_ret2
  have U := HS.out.upd3 (m + nq) (.int .i64 8)
  exact ⟨by rw [Int.natCast_emod]; rfl, U⟩

set_option maxRecDepth 100000 in
theorem rbLow6 (w : World) (s bb n i : Nat) (d : Nat → Nat) (h : Src w s bb n i 6 d) (hi' : i < n) :
    Calls Tryz.prog 175 #[pt s, .int .i64 2] w (SrcTo w s bb n (i + 1) 0 d (d i % 4)) := by
  have b0 : w.cell? ⟨s, 0, none⟩ = some (.slice (some ⟨bb, 0, none⟩) n n) := h.box.cell (i := 0) (by omega)
  have b1 : w.cell? ⟨s, 1, none⟩ = some (.int .i64 i) := h.box.cell (i := 1) (by omega)
  have b2 : w.cell? ⟨s, 2, none⟩ = some (.int .i64 6) := h.box.cell (i := 2) (by omega)
  have f1 := h.box.frozen 1
  have f2 := h.box.frozen 2
  have cd := h.row.cell hi'
  have hd := h.lt i hi'
  have hn := h.n1
  have HS := Lib.hid h; clear h
  have a1 : bits .and .u8 (d i : Int) 3 = ((d i % 4 : Nat) : Int) := and_lo 6 (d i) hd (by decide)
  have g1 : ¬ ((8 : Int) * ((n : Int) - (i : Int)) - ((6 : Nat) : Int) < 2) := by omega
  go_enter Tryz.func175, Tryz.ntmps175
  go_wp2_with fail
  refine (avail w s bb n i 6 d HS.out (by omega) (by omega)).mono ?_
  rintro e w' ⟨rfl, m, rfl⟩
  go_wp2_with fail
  go_quiet (fail)
  go_wp2_with fail
  go_ret2
  have U := HS.out.upd3 (m + nq) (.int .i64 8)
  exact ⟨by rw [Int.natCast_emod]; rfl, U⟩

set_option maxRecDepth 100000 in
theorem rb6a (w : World) (s bb n i : Nat) (d : Nat → Nat) (h : Src w s bb n i 0 d) (hi' : i < n) :
    Calls Tryz.prog 175 #[pt s, .int .i64 6] w (SrcTo w s bb n i 6 d (d i / 4)) := by
  have b0 : w.cell? ⟨s, 0, none⟩ = some (.slice (some ⟨bb, 0, none⟩) n n) := h.box.cell (i := 0) (by omega)
  have b1 : w.cell? ⟨s, 1, none⟩ = some (.int .i64 i) := h.box.cell (i := 1) (by omega)
  have b2 : w.cell? ⟨s, 2, none⟩ = some (.int .i64 (0 : Nat)) := h.box.cell (i := 2) (by omega)
  have f2 := h.box.frozen 2
  have cd := h.row.cell hi'
  have hd := h.lt i hi'
  have hn := h.n1
  have HS := Lib.hid h; clear h
  obtain ⟨q, hq⟩ : ∃ q, d i / 4 = q := ⟨_, rfl⟩
  have a1 := and_hi2 (d i) 252 hd (by decide)
  have e1 : ((d i &&& 252 : Nat) : Int) / 4 = (q : Int) := by have := (and_hi (d i) hd).1; omega
  obtain ⟨y, hy⟩ : ∃ y, d i &&& 252 = y := ⟨_, rfl⟩
  rw [hy] at a1 e1
  rw [show ((252 : Nat) : Int) = 252 from rfl] at a1
  have hyl : y < 256 := by rw [← hy]; exact Nat.lt_of_le_of_lt Nat.and_le_left hd
  have o1 := or_i64 0 q (by decide) (by omega)
  rw [Nat.zero_or, show ((0 : Nat) : Int) = 0 from rfl] at o1
  have g1 : ¬ ((8 : Int) * ((n : Int) - (i : Int)) - ((0 : Nat) : Int) < 6) := by omega
  rw [hq]
  go_enter Tryz.func175, Tryz.ntmps175
  go_wp2_with fail
  refine (avail w s bb n i 0 d HS.out (by omega) (by omega)).mono ?_
  rintro e w' ⟨rfl, m, rfl⟩
  go_wp2_with fail
  go_loopw [1, 6] (fun nb rs wr => nb = .int .i64 6 ∧ rs = .int .i64 0 ∧ wr.rowIs s 248 3 (srcBox bb n i 0) ∧ wr.rowIs bb 5 n (fun j => .int .u8 (d j)) ∧ But (· = s) w wr ∧ wr.heap.size = w.heap.size) (fun _ _ _ => 0)
  case atStart => exact ⟨rfl, rfl, HS.out.box, HS.out.row, (But.refl _ _).thenDn _, rfl⟩
  case round =>
    obtain ⟨rfl, rfl, hb, hr, hbu, hz⟩ := hrel
    have b0' : wr.cell? ⟨s, 0, none⟩ = some (.slice (some ⟨bb, 0, none⟩) n n) := hb.cell (i := 0) (by omega)
    have b1' : wr.cell? ⟨s, 1, none⟩ = some (.int .i64 i) := hb.cell (i := 1) (by omega)
    have b2' : wr.cell? ⟨s, 2, none⟩ = some (.int .i64 (0 : Nat)) := hb.cell (i := 2) (by omega)
    have f2' := hb.frozen 2
    have cd' := hr.cell hi'
    have HB := Lib.hid hb; clear hb
    have HR := Lib.hid hr; clear hr
    have HU := Lib.hid hbu; clear hbu
    go_wp2_with fail
    go_quiet (fail)
    go_wp2
    go_ret2
    refine ⟨rfl, ⟨((HB.out.set 2 (.int .i64 6)).congr fun j hj => ?_), HR.out.setOther (a := ⟨s, 2, none⟩) (Ne.symm HS.out.ne) _, HS.out.lt, HS.out.n1, HS.out.ne⟩, (HU.out.thenDn _).thenSet (a := ⟨s, 2, none⟩) (.inl rfl) _, by rw [World.size_setCell]; exact hz⟩
    match j, hj with
    | 0, _ => rfl
    | 1, _ => rfl
    | 2, _ => rfl
    | n + 3, h => omega

theorem or16 : ∀ p, p < 4 → ∀ q, q < 16 → p * 16 ||| q = p * 16 + q := by decide +kernel
theorem or4 : ∀ p, p < 16 → ∀ q, q < 4 → p * 4 ||| q = p * 4 + q := by decide +kernel

set_option maxRecDepth 100000 in
theorem rb6b (w : World) (s bb n i : Nat) (d : Nat → Nat) (h : Src w s bb n i 6 d) (hi' : i + 1 < n) :
    Calls Tryz.prog 175 #[pt s, .int .i64 6] w (SrcTo w s bb n (i + 1) 4 d (d i % 4 * 16 + d (i + 1) / 16)) := by
  have b0 : w.cell? ⟨s, 0, none⟩ = some (.slice (some ⟨bb, 0, none⟩) n n) := h.box.cell (i := 0) (by omega)
  have b1 : w.cell? ⟨s, 1, none⟩ = some (.int .i64 i) := h.box.cell (i := 1) (by omega)
  have b2 : w.cell? ⟨s, 2, none⟩ = some (.int .i64 6) := h.box.cell (i := 2) (by omega)
  have f1 := h.box.frozen 1
  have f2 := h.box.frozen 2
  have cd := h.row.cell (i := i) (by omega)
  have hd := h.lt i (by omega)
  have hd2 := h.lt (i + 1) hi'
  have hn := h.n1
  have HS := Lib.hid h; clear h
  obtain ⟨pp, hp⟩ : ∃ pp, d i % 4 = pp := ⟨_, rfl⟩
  obtain ⟨q, hq⟩ : ∃ q, d (i + 1) / 16 = q := ⟨_, rfl⟩
  have a1 : bits .and .u8 (d i : Int) 3 = ((d i % 4 : Nat) : Int) := and_lo 6 (d i) hd (by decide)
  rw [hp] at a1
  have a2 := and_hi2 (d (i + 1)) 240 hd2 (by decide)
  have e1 : ((d (i + 1) &&& 240 : Nat) : Int) / 16 = (q : Int) := by have := (and_hi (d (i + 1)) hd2).2.1; omega
  obtain ⟨y, hy⟩ : ∃ y, d (i + 1) &&& 240 = y := ⟨_, rfl⟩
  rw [hy] at a2 e1
  rw [show ((240 : Nat) : Int) = 240 from rfl] at a2
  have hyl : y < 256 := by rw [← hy]; exact Nat.lt_of_le_of_lt Nat.and_le_left hd2
  have hpl : pp < 4 := by omega
  have hql : q < 16 := by omega
  have o1 := or_i64 (pp * 16) q (by omega) (by omega)
  rw [or16 pp hpl q hql, show ((pp * 16 : Nat) : Int) = (pp : Int) * 16 by omega] at o1
  have g1 : ¬ ((8 : Int) * ((n : Int) - (i : Int)) - ((6 : Nat) : Int) < 6) := by omega
  have yl : (i : Int) + 1 < (n : Int) := by omega
  have e3 : ((i : Int) + 1).toNat = i + 1 := by omega
  rw [hp, hq]
  clear hp hq
  go_enter Tryz.func175, Tryz.ntmps175
  go_wp2_with fail
  refine (avail w s bb n i 6 d HS.out (by omega) (by omega)).mono ?_
  rintro e w' ⟨rfl, m, rfl⟩
  go_wp2_with fail
  go_quiet (fail)
  go_wp2_with fail
  have U := HS.out.upd3 (m + nq) (.int .i64 8)
  go_loopw [1, 6] (fun nb rs wr => nb = .int .i64 4 ∧ rs = .int .i64 pp ∧ wr.rowIs s 248 3 (srcBox bb n (i + 1) 0) ∧ wr.rowIs bb 5 n (fun j => .int .u8 (d j)) ∧ But (· = s) w wr ∧ wr.heap.size = w.heap.size) (fun _ _ _ => 0)
  case atStart => exact ⟨rfl, rfl, U.1.box, U.1.row, U.2⟩
  case round =>
    obtain ⟨rfl, rfl, hb, hr, hbu, hz⟩ := hrel
    have b0' : wr.cell? ⟨s, 0, none⟩ = some (.slice (some ⟨bb, 0, none⟩) n n) := hb.cell (i := 0) (by omega)
    have b1' : wr.cell? ⟨s, 1, none⟩ = some (.int .i64 ((i : Int) + 1)) := hb.cell (i := 1) (by omega)
    have b2' : wr.cell? ⟨s, 2, none⟩ = some (.int .i64 (0 : Nat)) := hb.cell (i := 2) (by omega)
    have f2' := hb.frozen 2
    have cd' := hr.cell hi'
    have HB := Lib.hid hb; clear hb
    have HR := Lib.hid hr; clear hr
    have HU := Lib.hid hbu; clear hbu
    clear U
    go_wp2_with fail
    go_quiet (fail)
    go_wp2
    go_ret2
    refine ⟨rfl, ⟨((HB.out.set 2 (.int .i64 4)).congr fun j hj => ?_), HR.out.setOther (a := ⟨s, 2, none⟩) (Ne.symm HS.out.ne) _, HS.out.lt, HS.out.n1, HS.out.ne⟩, (HU.out.thenDn _).thenSet (a := ⟨s, 2, none⟩) (.inl rfl) _, by rw [World.size_setCell]; exact hz⟩
    match j, hj with
    | 0, _ => rfl
    | 1, _ => rfl
    | 2, _ => rfl
    | n + 3, h => omega

set_option maxRecDepth 100000 in
theorem rb6c (w : World) (s bb n i : Nat) (d : Nat → Nat) (h : Src w s bb n i 4 d) (hi' : i + 1 < n) :
    Calls Tryz.prog 175 #[pt s, .int .i64 6] w (SrcTo w s bb n (i + 1) 2 d (d i % 16 * 4 + d (i + 1) / 64)) := by
  have b0 : w.cell? ⟨s, 0, none⟩ = some (.slice (some ⟨bb, 0, none⟩) n n) := h.box.cell (i := 0) (by omega)
  have b1 : w.cell? ⟨s, 1, none⟩ = some (.int .i64 i) := h.box.cell (i := 1) (by omega)
  have b2 : w.cell? ⟨s, 2, none⟩ = some (.int .i64 4) := h.box.cell (i := 2) (by omega)
  have f1 := h.box.frozen 1
  have f2 := h.box.frozen 2
  have cd := h.row.cell (i := i) (by omega)
  have hd := h.lt i (by omega)
  have hd2 := h.lt (i + 1) hi'
  have hn := h.n1
  have HS := Lib.hid h; clear h
  obtain ⟨pp, hp⟩ : ∃ pp, d i % 16 = pp := ⟨_, rfl⟩
  obtain ⟨q, hq⟩ : ∃ q, d (i + 1) / 64 = q := ⟨_, rfl⟩
  have a1 : bits .and .u8 (d i : Int) 15 = ((d i % 16 : Nat) : Int) := and_lo 4 (d i) hd (by decide)
  rw [hp] at a1
  have a2 := and_hi2 (d (i + 1)) 192 hd2 (by decide)
  have e1 : ((d (i + 1) &&& 192 : Nat) : Int) / 64 = (q : Int) := by have := (and_hi (d (i + 1)) hd2).2.2; omega
  obtain ⟨y, hy⟩ : ∃ y, d (i + 1) &&& 192 = y := ⟨_, rfl⟩
  rw [hy] at a2 e1
  rw [show ((192 : Nat) : Int) = 192 from rfl] at a2
  have hyl : y < 256 := by rw [← hy]; exact Nat.lt_of_le_of_lt Nat.and_le_left hd2
  have hpl : pp < 16 := by omega
  have hql : q < 4 := by omega
  have o1 := or_i64 (pp * 4) q (by omega) (by omega)
  rw [or4 pp hpl q hql, show ((pp * 4 : Nat) : Int) = (pp : Int) * 4 by omega] at o1
  have g1 : ¬ ((8 : Int) * ((n : Int) - (i : Int)) - ((4 : Nat) : Int) < 6) := by omega
  have yl : (i : Int) + 1 < (n : Int) := by omega
  have e3 : ((i : Int) + 1).toNat = i + 1 := by omega
  rw [hp, hq]
  clear hp hq
  go_enter Tryz.func175, Tryz.ntmps175
  go_wp2_with fail
  refine (avail w s bb n i 4 d HS.out (by omega) (by omega)).mono ?_
  rintro e w' ⟨rfl, m, rfl⟩
  go_wp2_with fail
  go_quiet (fail)
  go_wp2_with fail
  have U := HS.out.upd3 (m + nq) (.int .i64 8)
  go_loopw [1, 6] (fun nb rs wr => nb = .int .i64 2 ∧ rs = .int .i64 pp ∧ wr.rowIs s 248 3 (srcBox bb n (i + 1) 0) ∧ wr.rowIs bb 5 n (fun j => .int .u8 (d j)) ∧ But (· = s) w wr ∧ wr.heap.size = w.heap.size) (fun _ _ _ => 0)
  case atStart => exact ⟨rfl, rfl, U.1.box, U.1.row, U.2⟩
  case round =>
    obtain ⟨rfl, rfl, hb, hr, hbu, hz⟩ := hrel
    have b0' : wr.cell? ⟨s, 0, none⟩ = some (.slice (some ⟨bb, 0, none⟩) n n) := hb.cell (i := 0) (by omega)
    have b1' : wr.cell? ⟨s, 1, none⟩ = some (.int .i64 ((i : Int) + 1)) := hb.cell (i := 1) (by omega)
    have b2' : wr.cell? ⟨s, 2, none⟩ = some (.int .i64 (0 : Nat)) := hb.cell (i := 2) (by omega)
    have f2' := hb.frozen 2
    have cd' := hr.cell hi'
    have HB := Lib.hid hb; clear hb
    have HR := Lib.hid hr; clear hr
    have HU := Lib.hid hbu; clear hbu
    clear U
    go_wp2_with fail
    go_quiet (fail)
    go_wp2
    go_ret2
    refine ⟨rfl, ⟨((HB.out.set 2 (.int .i64 2)).congr fun j hj => ?_), HR.out.setOther (a := ⟨s, 2, none⟩) (Ne.symm HS.out.ne) _, HS.out.lt, HS.out.n1, HS.out.ne⟩, (HU.out.thenDn _).thenSet (a := ⟨s, 2, none⟩) (.inl rfl) _, by rw [World.size_setCell]; exact hz⟩
    match j, hj with
    | 0, _ => rfl
    | 1, _ => rfl
    | 2, _ => rfl
    | n + 3, h => omega
end Go.Proofs.YtcnallabiffemaaGreatDoor
namespace Zx

/-! what the decoder reads: modes 0 (end), 1 (ASCII), 2 (C40), 3 (Text), 4 (X12), 5 (EDIFACT), 6 (Base 256) -/

/-- a run of ASCII: the next mode, the characters, how many codewords -/
def dAsc : List Nat → Option (Nat × List Nat × Nat)
  | [] => some (1, [], 0)
  | b :: r =>
    if b = 0 then none
    else if b ≤ 128 then some (1, [b - 1], 1)
    else if b = 129 then some (0, [], 1)
    else if b ≤ 229 then (dAsc r).map fun x => (x.1, ((b - 130) / 10 + 48) :: ((b - 130) % 10 + 48) :: x.2.1, x.2.2 + 1)
    else if b = 230 then some (2, [], 1)
    else if b = 231 then some (6, [], 1)
    else if b = 238 then some (4, [], 1)
    else if b = 239 then some (3, [], 1)
    else if b = 240 then some (5, [], 1)
    else none

def bas3 (m v : Nat) : Nat := if v < 4 then 32 else if v < 14 then v + 44 else if m = 3 then v + 83 else v + 51
def sh2 (v : Nat) : Nat := if v < 15 then v + 33 else if v < 22 then v + 43 else v + 69
def sh3 (m v : Nat) : Nat := if m = 3 ∧ 1 ≤ v ∧ v ≤ 26 then v + 64 else v + 96
def x12c (v : Nat) : Nat := if v = 0 then 13 else if v = 1 then 42 else if v = 2 then 62 else if v = 3 then 32 else if v < 14 then v + 44 else v + 51

/-- a value of a triple, behind a shift: the characters, the next shift -/
def tstep (m sh v : Nat) : Option (List Nat × Nat) :=
  if m = 4 then (if v < 40 then some ([x12c v], 0) else none)
  else if sh = 0 then (if v < 3 then some ([], v + 1) else if v < 40 then some ([bas3 m v], 0) else none)
  else if sh = 1 then (if v < 32 then some ([v], 0) else none)
  else if sh = 2 then (if v < 27 then some ([sh2 v], 0) else none)
  else (if v < 32 then some ([sh3 m v], 0) else none)

def tauto (m : Nat) : Nat → List Nat → Option (List Nat × Nat)
  | sh, [] => some ([], sh)
  | sh, v :: vs => (tstep m sh v).bind fun x => (tauto m x.2 vs).map fun y => (x.1 ++ y.1, y.2)

theorem tauto_append (m sh : Nat) (vs ws : List Nat) :
    tauto m sh (vs ++ ws) = (tauto m sh vs).bind fun x => (tauto m x.2 ws).map fun y => (x.1 ++ y.1, y.2) := by
  induction vs generalizing sh with
  | nil => simp [tauto]
  | cons v vs ih =>
    simp only [List.cons_append, tauto]
    cases tstep m sh v with
    | none => rfl
    | some x =>
      simp only [Option.bind_some, ih]
      cases tauto m x.2 vs with
      | none => rfl
      | some y =>
        simp only [Option.bind_some, Option.map_some]
        cases tauto m y.2 ws with
        | none => rfl
        | some z => simp

/-- triples, up to an unlatch or the end -/
def dTri (m : Nat) : Nat → List Nat → Option (List Nat × Nat)
  | _, [] => some ([], 0)
  | _, [_] => some ([], 0)
  | sh, a :: b :: r =>
    if a = 254 then some ([], 1)
    else if 256 * a + b = 0 then none
    else (tauto m sh [(256 * a + b - 1) / 1600, (256 * a + b - 1) % 1600 / 40, (256 * a + b - 1) % 40]).bind fun x =>
      (dTri m x.2 r).map fun y => (x.1 ++ y.1, y.2 + 2)

/-- a sextet of EDIFACT as a character -/
def edc (x : Nat) : Nat := if x < 32 then x + 64 else x

def dEdi : List Nat → Option (List Nat × Nat)
  | a :: b :: c :: r =>
    if a / 4 = 31 then some ([], 1)
    else if a % 4 * 16 + b / 16 = 31 then some ([edc (a / 4)], 2)
    else if b % 16 * 4 + c / 64 = 31 then some ([edc (a / 4), edc (a % 4 * 16 + b / 16)], 3)
    else if c % 64 = 31 then some ([edc (a / 4), edc (a % 4 * 16 + b / 16), edc (b % 16 * 4 + c / 64)], 3)
    else (dEdi r).map fun y => (edc (a / 4) :: edc (a % 4 * 16 + b / 16) :: edc (b % 16 * 4 + c / 64) :: edc (c % 64) :: y.1, y.2 + 3)
  | _ => some ([], 0)

/-- a codeword at a position (from 1 on), as it was before it was randomized -/
def unr (b p : Nat) : Nat := (b + 256 - (149 * p % 255 + 1)) % 256

/-- bytes from a position (the codewords before it) on -/
def unrs (p : Nat) : List Nat → List Nat
  | [] => []
  | b :: r => unr b (p + 1) :: unrs (p + 1) r

theorem unrs_len (p : Nat) (l : List Nat) : (unrs p l).length = l.length := by
  induction l generalizing p with
  | nil => rfl
  | cons b r ih => simp [unrs, ih]

/-- a run of bytes behind p codewords -/
def dBas (p : Nat) : List Nat → Option (List Nat × Nat)
  | [] => none
  | b :: r =>
    if unr b (p + 1) = 0 then some (unrs (p + 1) r, 1 + r.length)
    else if unr b (p + 1) < 250 then (if unr b (p + 1) ≤ r.length then some (unrs (p + 1) (r.take (unr b (p + 1))), 1 + unr b (p + 1)) else none)
    else match r with
      | [] => none
      | b' :: r' => if 250 * (unr b (p + 1) - 249) + unr b' (p + 2) ≤ r'.length then
          some (unrs (p + 2) (r'.take (250 * (unr b (p + 1) - 249) + unr b' (p + 2))), 2 + (250 * (unr b (p + 1) - 249) + unr b' (p + 2))) else none

/-- the codewords l behind p ones are read as some characters -/
inductive Dec : Nat → Nat → List Nat → List Nat → Prop
  | pda (p : Nat) (l : List Nat) : Dec 0 p l []
  | nil (m p : Nat) : Dec m p [] []
  | asc {p : Nat} {l : List Nat} {m : Nat} {out : List Nat} {k : Nat} {rest : List Nat} : l ≠ [] → dAsc l = some (m, out, k) → Dec m (p + k) (l.drop k) rest → Dec 1 p l (out ++ rest)
  | tri {m p : Nat} {l out : List Nat} {k : Nat} {rest : List Nat} : (m = 2 ∨ m = 3 ∨ m = 4) → l ≠ [] → dTri m 0 l = some (out, k) → Dec 1 (p + k) (l.drop k) rest → Dec m p l (out ++ rest)
  | edi {p : Nat} {l out : List Nat} {k : Nat} {rest : List Nat} : l ≠ [] → dEdi l = some (out, k) → Dec 1 (p + k) (l.drop k) rest → Dec 5 p l (out ++ rest)
  | bas {p : Nat} {l out : List Nat} {k : Nat} {rest : List Nat} : l ≠ [] → dBas p l = some (out, k) → (∀ x ∈ out, x < 128) → out ≠ [] → Dec 1 (p + k) (l.drop k) rest → Dec 6 p l (out ++ rest)

/-! ASCII -/
theorem Dec.pad (p : Nat) (l : List Nat) : Dec 1 p (129 :: l) [] := by
  have := Dec.asc (p := p) (l := 129 :: l) (m := 0) (out := []) (k := 1) (rest := []) (by simp) (by simp [dAsc]) (Dec.pda _ _)
  simpa using this

theorem Dec.char {p c : Nat} {l out : List Nat} (hc : c < 128) (h : Dec 1 (p + 1) l out) : Dec 1 p ((c + 1) :: l) (c :: out) := by
  have := Dec.asc (p := p) (l := (c + 1) :: l) (m := 1) (out := [c]) (k := 1) (rest := out) (by simp) (by simp [dAsc]; omega) (by simpa using h)
  simpa using this

theorem Dec.latch {p c m : Nat} {l out : List Nat} (hc : (c = 230 ∧ m = 2) ∨ (c = 239 ∧ m = 3) ∨ (c = 238 ∧ m = 4) ∨ (c = 240 ∧ m = 5) ∨ (c = 231 ∧ m = 6)) (h : Dec m (p + 1) l out) :
    Dec 1 p (c :: l) out := by
  have := Dec.asc (p := p) (l := c :: l) (m := m) (out := []) (k := 1) (rest := out) (by simp)
    (by rcases hc with ⟨rfl, rfl⟩ | ⟨rfl, rfl⟩ | ⟨rfl, rfl⟩ | ⟨rfl, rfl⟩ | ⟨rfl, rfl⟩ <;> simp [dAsc]) (by simpa using h)
  simpa using this

theorem Dec.pair {p v : Nat} {l out : List Nat} (hv : v < 100) (h : Dec 1 (p + 1) l out) : Dec 1 p ((v + 130) :: l) ((v / 10 + 48) :: (v % 10 + 48) :: out) := by
  have hd : ∀ x, dAsc l = some x → dAsc ((v + 130) :: l) = some (x.1, (v / 10 + 48) :: (v % 10 + 48) :: x.2.1, x.2.2 + 1) := by
    intro x hx
    rw [dAsc, if_neg (by omega), if_neg (by omega), if_neg (by omega), if_pos (by omega), hx]
    simp
  cases h with
  | nil =>
    have := Dec.asc (p := p) (l := [v + 130]) (m := 1) (k := 1) (rest := []) (by simp) (hd (1, [], 0) rfl) (Dec.nil _ _)
    simpa using this
  | asc hl h1 h2 =>
    rename_i m o k r
    have := Dec.asc (p := p) (l := (v + 130) :: l) (m := m) (k := k + 1) (rest := r) (by simp) (hd _ h1) (by simpa [Nat.add_assoc, Nat.add_comm 1 k] using h2)
    simpa using this
  | tri hm => omega

def isDig (c : Nat) : Prop := 48 ≤ c ∧ c ≤ 57
instance (c : Nat) : Decidable (isDig c) := inferInstanceAs (Decidable (_ ∧ _))

/-- ASCII's codewords -/
def pAsc : List Nat → List Nat
  | a :: b :: r => if isDig a ∧ isDig b then (130 + (a - 48) * 10 + (b - 48)) :: pAsc r else (a + 1) :: pAsc (b :: r)
  | [a] => [a + 1]
  | [] => []

theorem Dec.ascii (s : List Nat) (hs : ∀ c ∈ s, c < 128) {p : Nat} {l out : List Nat} (h : Dec 1 (p + (pAsc s).length) l out) : Dec 1 p (pAsc s ++ l) (s ++ out) := by
  match s with
  | [] => simpa [pAsc] using h
  | [a] =>
    have := Dec.char (p := p) (c := a) (l := l) (out := out) (hs a (by simp)) (by simpa [pAsc] using h)
    simpa [pAsc] using this
  | a :: b :: r =>
    by_cases hd : isDig a ∧ isDig b
    · have e : pAsc (a :: b :: r) = ((a - 48) * 10 + (b - 48) + 130) :: pAsc r := by
        rw [pAsc, if_pos hd]; congr 1; omega
      rw [e] at h ⊢
      unfold isDig at hd
      have h2 := Dec.ascii r (fun c hc => hs c (by simp [hc])) (p := p + 1) (l := l) (out := out) (by simpa [Nat.add_assoc, Nat.add_comm 1] using h)
      have h3 := Dec.pair (v := (a - 48) * 10 + (b - 48)) (by omega) h2
      rw [show ((a - 48) * 10 + (b - 48)) / 10 + 48 = a by omega, show ((a - 48) * 10 + (b - 48)) % 10 + 48 = b by omega] at h3
      exact h3
    · have e : pAsc (a :: b :: r) = (a + 1) :: pAsc (b :: r) := by rw [pAsc, if_neg hd]
      rw [e] at h ⊢
      have h2 := Dec.ascii (b :: r) (fun c hc => hs c (by simp at hc; simp [hc])) (p := p + 1) (l := l) (out := out) (by simpa [Nat.add_assoc, Nat.add_comm 1] using h)
      exact Dec.char (hs a (by simp)) h2
termination_by s.length

/-! triples -/
/-- two codewords for three values -/
def tcw : List Nat → List Nat
  | a :: b :: c :: r => (1600 * a + 40 * b + c + 1) / 256 :: (1600 * a + 40 * b + c + 1) % 256 :: tcw r
  | _ => []

theorem dTri_tcw (m sh : Nat) (vs : List Nat) (hv : ∀ v ∈ vs, v < 40) (h3 : vs.length % 3 = 0) (x : List Nat × Nat) (h : tauto m sh vs = some x) (b : Nat) (l : List Nat) :
    dTri m sh (tcw vs ++ 254 :: b :: l) = some (x.1, (tcw vs).length + 1) := by
  match vs with
  | [] => simp [tauto] at h; subst h; simp [tcw, dTri]
  | [_] => simp at h3
  | [_, _] => simp at h3
  | v1 :: v2 :: v3 :: r =>
    have b1 := hv v1 (by simp)
    have b2 := hv v2 (by simp)
    have b3 := hv v3 (by simp)
    have e : v1 :: v2 :: v3 :: r = [v1, v2, v3] ++ r := rfl
    rw [e, tauto_append] at h
    cases ht : tauto m sh [v1, v2, v3] with
    | none => rw [ht] at h; simp at h
    | some y =>
      rw [ht] at h
      simp only [Option.bind_some] at h
      cases ht2 : tauto m y.2 r with
      | none => rw [ht2] at h; simp at h
      | some z =>
        rw [ht2] at h
        simp only [Option.map_some, Option.some.injEq] at h
        subst h
        have ih := dTri_tcw m y.2 r (fun v hv' => hv v (by simp [hv'])) (by simp at h3; omega) z ht2 b l
        have hN : 256 * ((1600 * v1 + 40 * v2 + v3 + 1) / 256) + (1600 * v1 + 40 * v2 + v3 + 1) % 256 = 1600 * v1 + 40 * v2 + v3 + 1 := Nat.div_add_mod _ _
        simp only [tcw, List.cons_append, dTri]
        rw [hN, if_neg (by omega), if_neg (by omega)]
        rw [show (1600 * v1 + 40 * v2 + v3 + 1 - 1) / 1600 = v1 by omega, show (1600 * v1 + 40 * v2 + v3 + 1 - 1) % 1600 / 40 = v2 by omega,
          show (1600 * v1 + 40 * v2 + v3 + 1 - 1) % 40 = v3 by omega, ht]
        simp [ih]
termination_by vs.length

theorem Dec.triples {m p c : Nat} (vs : List Nat) (hv : ∀ v ∈ vs, v < 40) (h3 : vs.length % 3 = 0) (hm : (c = 230 ∧ m = 2) ∨ (c = 239 ∧ m = 3) ∨ (c = 238 ∧ m = 4))
    {s : List Nat} {sh : Nat} (ht : tauto m 0 vs = some (s, sh)) {l out : List Nat} (hl : l ≠ []) (h : Dec 1 (p + (tcw vs).length + 2) l out) :
    Dec 1 p (c :: (tcw vs ++ 254 :: l)) (s ++ out) := by
  obtain ⟨b, r, rfl⟩ : ∃ b r, l = b :: r := by
    cases l with
    | nil => exact absurd rfl hl
    | cons b r => exact ⟨b, r, rfl⟩
  have h1 := dTri_tcw m 0 vs hv h3 _ ht b r
  have hdrop : (tcw vs ++ 254 :: b :: r).drop ((tcw vs).length + 1) = b :: r := by
    rw [List.drop_append, List.drop_eq_nil_of_le (by omega), show (tcw vs).length + 1 - (tcw vs).length = 1 by omega]; simp
  have h2 := Dec.tri (m := m) (p := p + 1) (by omega) (by simp) h1 (rest := out) (by
    rw [hdrop, show p + 1 + ((tcw vs).length + 1) = p + (tcw vs).length + 2 by omega]; exact h)
  exact Dec.latch (m := m) (by omega) h2

/-! EDIFACT -/
/-- codewords of sextets: by fours -/
def ecw : List Nat → List Nat
  | a :: b :: c :: d :: r => (a * 4 + b / 16) :: (b % 16 * 16 + c / 4) :: (c % 4 * 64 + d) :: ecw r
  | [a, b, c] => [a * 4 + b / 16, b % 16 * 16 + c / 4, c % 4 * 64]
  | [a, b] => [a * 4 + b / 16, b % 16 * 16]
  | [a] => [a * 4]
  | [] => []

theorem edc_char {c : Nat} (h1 : 32 ≤ c) (h2 : c < 95) : edc (c % 64) = c ∧ c % 64 ≠ 31 := by
  unfold edc
  by_cases h : c < 64
  · rw [Nat.mod_eq_of_lt h, if_neg (by omega)]; omega
  · rw [show c % 64 = c - 64 by omega, if_pos (by omega)]; omega

theorem dEdi_ecw (s : List Nat) (hs : ∀ c ∈ s, 32 ≤ c ∧ c < 95) (l : List Nat) (hl : 2 ≤ l.length) :
    dEdi (ecw (s.map (· % 64) ++ [31]) ++ l) = some (s, (ecw (s.map (· % 64) ++ [31])).length) := by
  obtain ⟨y, z, r, rfl⟩ : ∃ y z r, l = y :: z :: r := by
    match l, hl with
    | y :: z :: r, _ => exact ⟨y, z, r, rfl⟩
  match s with
  | [] => simp [ecw, dEdi]
  | [a] =>
    have ha := hs a (by simp)
    obtain ⟨e1, n1⟩ := edc_char ha.1 ha.2
    simp only [List.map_cons, List.map_nil, List.cons_append, List.nil_append, ecw, dEdi]
    rw [if_neg (by omega), if_pos (by omega), show (a % 64 * 4 + 31 / 16) / 4 = a % 64 by omega, e1]
    simp
  | [a, b] =>
    have ha := hs a (by simp)
    have hb := hs b (by simp)
    obtain ⟨e1, n1⟩ := edc_char ha.1 ha.2
    obtain ⟨e2, n2⟩ := edc_char hb.1 hb.2
    simp only [List.map_cons, List.map_nil, List.cons_append, List.nil_append, ecw, dEdi]
    rw [if_neg (by omega), if_neg (by omega), if_pos (by omega), show (a % 64 * 4 + b % 64 / 16) / 4 = a % 64 by omega,
      show (a % 64 * 4 + b % 64 / 16) % 4 * 16 + (b % 64 % 16 * 16 + 31 / 4) / 16 = b % 64 by omega, e1, e2]
    simp
  | [a, b, c] =>
    have ha := hs a (by simp)
    have hb := hs b (by simp)
    have hc := hs c (by simp)
    obtain ⟨e1, n1⟩ := edc_char ha.1 ha.2
    obtain ⟨e2, n2⟩ := edc_char hb.1 hb.2
    obtain ⟨e3, n3⟩ := edc_char hc.1 hc.2
    simp only [List.map_cons, List.map_nil, List.cons_append, List.nil_append, ecw, dEdi]
    rw [if_neg (by omega), if_neg (by omega), if_neg (by omega), if_pos (by omega), show (a % 64 * 4 + b % 64 / 16) / 4 = a % 64 by omega,
      show (a % 64 * 4 + b % 64 / 16) % 4 * 16 + (b % 64 % 16 * 16 + c % 64 / 4) / 16 = b % 64 by omega,
      show (b % 64 % 16 * 16 + c % 64 / 4) % 16 * 4 + (c % 64 % 4 * 64 + 31) / 64 = c % 64 by omega, e1, e2, e3]
    simp
  | a :: b :: c :: d :: t =>
    have ha := hs a (by simp)
    have hb := hs b (by simp)
    have hc := hs c (by simp)
    have hd := hs d (by simp)
    obtain ⟨e1, n1⟩ := edc_char ha.1 ha.2
    obtain ⟨e2, n2⟩ := edc_char hb.1 hb.2
    obtain ⟨e3, n3⟩ := edc_char hc.1 hc.2
    obtain ⟨e4, n4⟩ := edc_char hd.1 hd.2
    have ih := dEdi_ecw t (fun x hx => hs x (by simp [hx])) (y :: z :: r) (by simp)
    simp only [List.map_cons, List.cons_append, ecw, dEdi]
    rw [if_neg (by omega), if_neg (by omega), if_neg (by omega), if_neg (by omega), show (a % 64 * 4 + b % 64 / 16) / 4 = a % 64 by omega,
      show (a % 64 * 4 + b % 64 / 16) % 4 * 16 + (b % 64 % 16 * 16 + c % 64 / 4) / 16 = b % 64 by omega,
      show (b % 64 % 16 * 16 + c % 64 / 4) % 16 * 4 + (c % 64 % 4 * 64 + d % 64) / 64 = c % 64 by omega,
      show (c % 64 % 4 * 64 + d % 64) % 64 = d % 64 by omega, e1, e2, e3, e4]
    rw [ih]; simp
termination_by s.length

theorem Dec.edifact {p : Nat} (s : List Nat) (hs : ∀ c ∈ s, 32 ≤ c ∧ c < 95) {l out : List Nat} (hl : 2 ≤ l.length)
    (h : Dec 1 (p + 1 + (ecw (s.map (· % 64) ++ [31])).length) l out) : Dec 1 p (240 :: (ecw (s.map (· % 64) ++ [31]) ++ l)) (s ++ out) := by
  have h1 := dEdi_ecw s hs l hl
  have hne : ecw (s.map (· % 64) ++ [31]) ++ l ≠ [] := by
    intro h0
    have := congrArg List.length h0
    rw [List.length_append, List.length_nil] at this
    omega
  have h2 := Dec.edi (p := p + 1) hne h1 (rest := out) (by rw [List.drop_left]; exact h)
  exact Dec.latch (m := 5) (by omega) h2

/-! bytes -/
def rnd (x p : Nat) : Nat := (x + (149 * p % 255 + 1)) % 256
theorem unr_rnd (x p : Nat) (h : x < 256) : unr (rnd x p) p = x := by unfold unr rnd; omega
/-- bytes, randomized, behind p codewords -/
def rnds (p : Nat) : List Nat → List Nat
  | [] => []
  | x :: r => rnd x (p + 1) :: rnds (p + 1) r
theorem rnds_len (p : Nat) (l : List Nat) : (rnds p l).length = l.length := by
  induction l generalizing p with
  | nil => rfl
  | cons b r ih => simp [rnds, ih]
theorem unrs_rnds (p : Nat) (l : List Nat) (h : ∀ x ∈ l, x < 256) : unrs p (rnds p l) = l := by
  induction l generalizing p with
  | nil => rfl
  | cons x r ih => simp only [rnds, unrs]; rw [unr_rnd _ _ (h x (by simp)), ih _ (fun y hy => h y (by simp [hy]))]

theorem Dec.bytes {p : Nat} (s : List Nat) (hs : ∀ c ∈ s, c < 128) (h0 : s ≠ []) (hlen : s.length < 250) {l out : List Nat}
    (h : Dec 1 (p + 2 + s.length) l out) : Dec 1 p (231 :: (rnds (p + 1) (s.length :: s) ++ l)) (s ++ out) := by
  have hpos : 0 < s.length := List.length_pos_iff.2 h0
  refine Dec.latch (m := 6) (by omega) ?_
  have hu : unr (rnd s.length (p + 1 + 1)) (p + 1 + 1) = s.length := unr_rnd _ _ (by omega)
  have h1 : dBas (p + 1) (rnds (p + 1) (s.length :: s) ++ l) = some (s, 1 + s.length) := by
    simp only [rnds, List.cons_append, dBas]
    rw [hu, if_neg (by omega), if_pos hlen, if_pos (by simp [rnds_len]), List.take_left' (by simp [rnds_len]), unrs_rnds _ _ (fun x hx => by have := hs x hx; omega)]
  refine Dec.bas (by simp [rnds]) h1 hs h0 (rest := out) ?_
  rw [List.drop_left' (by simp [rnds_len]; omega), show p + 1 + (1 + s.length) = p + 2 + s.length by omega]
  exact h

end Zx
namespace Zx

/-! texts as codewords, with whatever stands behind them -/
/-- codewords behind p ones that are read as s, whatever (three at least) stands behind them -/
def SegOk (p : Nat) (ws s : List Nat) : Prop := ∀ l rest, 3 ≤ l.length → Dec 1 (p + ws.length) l rest → Dec 1 p (ws ++ l) (s ++ rest)

theorem SegOk.nil (p : Nat) : SegOk p [] [] := fun _ _ _ h => by simpa using h

theorem SegOk.append {p : Nat} {a b s t : List Nat} (h1 : SegOk p a s) (h2 : SegOk (p + a.length) b t) : SegOk p (a ++ b) (s ++ t) := by
  intro l rest hl h
  rw [List.append_assoc, List.append_assoc]
  refine h1 _ _ (by rw [List.length_append]; omega) (h2 _ _ hl ?_)
  rw [List.length_append] at h
  rw [Nat.add_assoc]; exact h

theorem SegOk.ascii (p : Nat) (s : List Nat) (hs : ∀ c ∈ s, c < 128) : SegOk p (pAsc s) s := fun _ _ _ h => Dec.ascii s hs h

theorem SegOk.sextets (p : Nat) (s : List Nat) (hs : ∀ c ∈ s, 32 ≤ c ∧ c < 95) : SegOk p (240 :: ecw (s.map (· % 64) ++ [31])) s := fun l rest hl h => by
  have := Dec.edifact (p := p) s hs (l := l) (out := rest) (by omega) (by simpa [Nat.add_assoc, Nat.add_comm 1] using h)
  simpa using this

theorem SegOk.bytes (p : Nat) (s : List Nat) (hs : ∀ c ∈ s, c < 128) (h0 : s ≠ []) (hl : s.length < 250) : SegOk p (231 :: rnds (p + 1) (s.length :: s)) s := fun l rest _ h => by
  have := Dec.bytes (p := p) s hs h0 hl (l := l) (out := rest) (by
    have e : (231 :: rnds (p + 1) (s.length :: s)).length = 2 + s.length := by simp [rnds_len]; omega
    rw [e, ← Nat.add_assoc] at h; exact h)
  simpa using this

theorem SegOk.triples (p m c : Nat) (vs s : List Nat) (hv : ∀ v ∈ vs, v < 40) (h3 : vs.length % 3 = 0) (hm : (c = 230 ∧ m = 2) ∨ (c = 239 ∧ m = 3) ∨ (c = 238 ∧ m = 4)) (ht : tauto m 0 vs = some (s, 0)) :
    SegOk p (c :: (tcw vs ++ [254])) s := fun l rest hl h => by
  have := Dec.triples (p := p) vs hv h3 hm ht (l := l) (out := rest) (by intro h0; subst h0; simp at hl) (by
    have e : (c :: (tcw vs ++ [254])).length = (tcw vs).length + 2 := by simp
    rw [e, ← Nat.add_assoc] at h; exact h)
  simpa using this

/-- behind the text: pads -/
theorem SegOk.read {ws s pads : List Nat} (h : SegOk 0 ws s) (hp : 2 ≤ pads.length) : Dec 1 0 (ws ++ 129 :: pads) s := by
  have := h (129 :: pads) [] (by simp; omega) (Dec.pad _ _)
  simpa using this

/-! the values of characters: m: 2 C40, 3 Text, 4 X12 -/
def basB (m v : Nat) : Nat × Bool :=
  if m = 4 ∧ v < 4 then (x12c v, true) else if m ≠ 4 ∧ v < 3 then (0, false)
  else if v = 3 then (32, true) else if v < 14 then (v + 44, true) else if m = 3 then (v + 83, decide (v < 40)) else (v + 51, decide (v < 40))
def shB (m set v : Nat) : Nat × Bool :=
  if set = 1 then (v, decide (v < 32))
  else if set = 2 ∧ v < 27 then (sh2 v, true)
  else if set = 3 ∧ v < 32 then (sh3 m v, true)
  else (0, false)

/-- the first number below n, from k on, with a property -/
def srch (f : Nat → Bool) : Nat → Nat → Option Nat
  | _, 0 => none
  | k, n + 1 => if f k then some k else srch f (k + 1) n

def hitB (c : Nat) (x : Nat × Bool) : Bool := x.2 && x.1 == c

def valsL (m c : Nat) : List Nat :=
  match srch (fun v => hitB c (basB m v)) 0 40 with
  | some v => [v]
  | none => if m = 4 then [] else
    match srch (fun v => hitB c (shB m 1 v)) 0 32 with
    | some v => [0, v]
    | none => match srch (fun v => hitB c (shB m 2 v)) 0 32 with
      | some v => [1, v]
      | none => match srch (fun v => hitB c (shB m 3 v)) 0 32 with
        | some v => [2, v]
        | none => []

def valsFine (m c : Nat) : Bool := (valsL m c).isEmpty || (tauto m 0 (valsL m c) == some ([c], 0) && (valsL m c).all (· < 40) && decide ((valsL m c).length ≤ 2))
theorem valsL_fine : ∀ m, m < 3 → ∀ c, c < 128 → valsFine (m + 2) c = true := by decide +kernel

theorem valsL_ok (m c : Nat) (hm : 2 ≤ m ∧ m ≤ 4) (hc : c < 128) (h : valsL m c ≠ []) : tauto m 0 (valsL m c) = some ([c], 0) ∧ (∀ v ∈ valsL m c, v < 40) ∧ (valsL m c).length ≤ 2 := by
  have := valsL_fine (m - 2) (by omega) c hc
  rw [show m - 2 + 2 = m by omega] at this
  unfold valsFine at this
  simp only [Bool.or_eq_true, Bool.and_eq_true, List.isEmpty_iff, beq_iff_eq, List.all_eq_true, decide_eq_true_eq] at this
  rcases this with h1 | ⟨⟨h1, h2⟩, h3⟩
  · exact absurd h1 h
  · exact ⟨h1, fun v hv => h2 v hv, h3⟩

/-- the values of a text -/
def valsT (m : Nat) (s : List Nat) : List Nat := s.flatMap (valsL m)
theorem valsT_ok (m : Nat) (s : List Nat) (hm : 2 ≤ m ∧ m ≤ 4) (hs : ∀ c ∈ s, c < 128 ∧ valsL m c ≠ []) : tauto m 0 (valsT m s) = some (s, 0) ∧ (∀ v ∈ valsT m s, v < 40) ∧ (valsT m s).length ≤ 2 * s.length := by
  induction s with
  | nil => exact ⟨rfl, fun v hv => absurd hv (by simp [valsT]), by simp [valsT]⟩
  | cons c r ih =>
    have ih' := ih fun c hc => hs c (by simp [hc])
    obtain ⟨h1, h2, h3⟩ := valsL_ok m c hm (hs c (by simp)).1 (hs c (by simp)).2
    have e : valsT m (c :: r) = valsL m c ++ valsT m r := by simp [valsT]
    rw [e]
    refine ⟨?_, fun v hv => ?_, by rw [List.length_append, List.length_cons]; omega⟩
    · rw [tauto_append, h1]
      simp only [Option.bind_some, ih'.1, Option.map_some, List.singleton_append]
    · rcases List.mem_append.1 hv with h | h
      · exact h2 v h
      · exact ih'.2.1 v h
theorem valsT_snoc (m : Nat) (s : List Nat) (c : Nat) : valsT m (s ++ [c]) = valsT m s ++ valsL m c := by simp [valsT]

theorem ecw_len : ∀ (s : List Nat), (ecw s).length = (6 * s.length + 7) / 8
  | a :: b :: c :: d :: r => by simp only [ecw, List.length_cons, ecw_len r]; omega
  | [_, _, _] => by simp [ecw]
  | [_, _] => by simp [ecw]
  | [_] => by simp [ecw]
  | [] => by simp [ecw]
theorem tcw_len : ∀ (s : List Nat), (tcw s).length = s.length / 3 * 2
  | a :: b :: c :: r => by simp only [tcw, List.length_cons, tcw_len r]; omega
  | [_, _] => by simp [tcw]
  | [_] => by simp [tcw]
  | [] => by simp [tcw]
theorem pAsc_len : ∀ (s : List Nat), (pAsc s).length ≤ s.length
  | a :: b :: r => by
    rw [pAsc]
    split
    · have := pAsc_len r; simp only [List.length_cons]; omega
    · have := pAsc_len (b :: r); simp only [List.length_cons] at this ⊢; omega
  | [_] => by simp [pAsc]
  | [] => by simp [pAsc]
theorem pAsc_lt : ∀ (s : List Nat), (∀ c ∈ s, c < 128) → ∀ x ∈ pAsc s, x < 256
  | a :: b :: r, h, x, hx => by
    rw [pAsc] at hx
    split at hx
    · rename_i hd
      unfold isDig at hd
      rcases List.mem_cons.1 hx with rfl | hx
      · omega
      · exact pAsc_lt r (fun c hc => h c (by simp [hc])) x hx
    · rcases List.mem_cons.1 hx with rfl | hx
      · have := h a (by simp); omega
      · exact pAsc_lt (b :: r) (fun c hc => h c (by simp at hc; simp [hc])) x hx
  | [a], h, x, hx => by simp [pAsc] at hx; have := h a (by simp); omega
  | [], _, x, hx => by simp [pAsc] at hx
theorem ecw_lt : ∀ (s : List Nat), (∀ c ∈ s, c < 64) → ∀ x ∈ ecw s, x < 256
  | a :: b :: c :: d :: r, h, x, hx => by
    have h1 := h a (by simp)
    have h2 := h b (by simp)
    have h3 := h c (by simp)
    have h4 := h d (by simp)
    simp only [ecw, List.mem_cons] at hx
    rcases hx with rfl | rfl | rfl | hx
    · omega
    · omega
    · omega
    · exact ecw_lt r (fun c hc => h c (by simp [hc])) x hx
  | [a, b, c], h, x, hx => by
    have h1 := h a (by simp)
    have h2 := h b (by simp)
    have h3 := h c (by simp)
    simp [ecw] at hx; rcases hx with rfl | rfl | rfl <;> omega
  | [a, b], h, x, hx => by
    have h1 := h a (by simp)
    have h2 := h b (by simp)
    simp [ecw] at hx; rcases hx with rfl | rfl <;> omega
  | [a], h, x, hx => by
    have h1 := h a (by simp)
    simp [ecw] at hx; omega
  | [], _, x, hx => by simp [ecw] at hx
theorem tcw_lt : ∀ (s : List Nat), (∀ c ∈ s, c < 40) → ∀ x ∈ tcw s, x < 256
  | a :: b :: c :: r, h, x, hx => by
    have h1 := h a (by simp)
    have h2 := h b (by simp)
    have h3 := h c (by simp)
    simp only [tcw, List.mem_cons] at hx
    rcases hx with rfl | rfl | hx
    · omega
    · omega
    · exact tcw_lt r (fun c hc => h c (by simp [hc])) x hx
  | [a, b], _, x, hx => by simp [tcw] at hx
  | [a], _, x, hx => by simp [tcw] at hx
  | [], _, x, hx => by simp [tcw] at hx
theorem rnds_lt (p : Nat) (l : List Nat) : ∀ x ∈ rnds p l, x < 256 := by
  induction l generalizing p with
  | nil => intro x hx; simp [rnds] at hx
  | cons a r ih =>
    intro x hx
    simp only [rnds, List.mem_cons] at hx
    rcases hx with rfl | hx
    · unfold rnd; omega
    · exact ih _ x hx
end Zx
namespace Go.Proofs.YtcnallabiffemaaGreatDoor
open Go.RowKit (Hid Below)
open Zx

/-- the codewords from a place on -/
def ds (d : Nat → Nat) (n i : Nat) : List Nat := ((List.range n).map d).drop i
theorem ds_cons (d : Nat → Nat) (n i : Nat) (h : i < n) : ds d n i = d i :: ds d n (i + 1) := by
  unfold ds
  rw [List.drop_eq_getElem_cons (by simpa using h)]
  simp
theorem ds_nil (d : Nat → Nat) (n i : Nat) (h : n ≤ i) : ds d n i = [] := List.drop_eq_nil_of_le (by simpa using h)
theorem ds_len (d : Nat → Nat) (n i : Nat) : (ds d n i).length = n - i := by unfold ds; simp
theorem ds_drop (d : Nat → Nat) (n i k : Nat) : (ds d n i).drop k = ds d n (i + k) := by unfold ds; rw [List.drop_drop]
theorem ds_ne {d : Nat → Nat} {n i : Nat} (h : ds d n i ≠ []) : i < n := by
  rcases Nat.lt_or_ge i n with h1 | h1
  · exact h1
  · exact absurd (ds_nil d n i h1) h

/-- the blocks that a segment's reading writes: the source's, the text's -/
def SegS (s : Nat) (v0 : Value) (b : Nat) : Prop := b = s ∨ v0.ownBlock = some b

/-- a segment's reading under way: it began in the world w with the text v0 (blocks from q on are the reading's new ones); now the source stands at byte i, bit o, and the text is v, with the characters l -/
structure Gr (w : World) (q s bb n : Nat) (d : Nat → Nat) (base : Nat) (v0 : Value) (wr : World) (i o : Nat) (v : Value) (l : List Nat) : Prop where
  src : Src wr s bb n i o d
  own : OwnB wr base v l
  but : But (SegS s v0) w wr
  at_ : v.ownBlock = v0.ownBlock ∨ ∃ b, v.ownBlock = some b ∧ q ≤ b
  lts : s < base ∧ bb < base ∧ base ≤ w.heap.size
  len : l.length ≤ 2 * i
  qle : w.heap.size ≤ q ∧ q ≤ wr.heap.size
  v0lt : ∀ b, v0.ownBlock = some b → base ≤ b ∧ b < w.heap.size

theorem Gr.start {w : World} {s bb n i o base : Nat} {d : Nat → Nat} {v : Value} {l : List Nat} (h1 : Src w s bb n i o d) (h2 : OwnB w base v l) (h3 : s < base ∧ bb < base ∧ base ≤ w.heap.size) (h4 : l.length ≤ 2 * i) : Gr w w.heap.size s bb n d base v w i o v l :=
  ⟨h1, h2, But.refl _ _, .inl rfl, h3, h4, ⟨Nat.le_refl _, Nat.le_refl _⟩, fun _ hb => h2.lt hb⟩

section
variable {w wr w' : World} {q s bb n i o i' o' base r : Nat} {d : Nat → Nat} {v0 v v' : Value} {l l2 : List Nat} {e : Ending}

/-- bits are read -/
theorem Gr.read (h : Gr w q s bb n d base v0 wr i o v l) (hs : Src w' s bb n i' o' d) (hb : But (· = s) wr w') (hi : i ≤ i') : Gr w q s bb n d base v0 w' i' o' v l :=
  ⟨hs, h.own.keep hb (fun k hk hks => by have := (h.own.lt hk).1; have := h.lts.1; omega), h.but.trans (hb.weak fun _ _ h => .inl h), h.at_, h.lts, by have := h.len; omega, ⟨h.qle.1, Nat.le_trans h.qle.2 hb.size⟩, h.v0lt⟩

/-- only drawn -/
theorem Gr.dn (h : Gr w q s bb n d base v0 wr i o v l) (m : Nat) : Gr w q s bb n d base v0 (wr.drewN m) i o v l :=
  ⟨⟨h.src.box, h.src.row, h.src.lt, h.src.n1, h.src.ne⟩, h.own, h.but.thenDn m, h.at_, h.lts, h.len, h.qle, h.v0lt⟩

/-- a new block -/
theorem Gr.all (h : Gr w q s bb n d base v0 wr i o v l) (hb : Below wr.heap.size wr w') : Gr w q s bb n d base v0 w' i o v l :=
  ⟨⟨rowIs_below h.src.box hb h.src.box.lt, rowIs_below h.src.row hb h.src.row.lt, h.src.lt, h.src.n1, h.src.ne⟩, h.own.below hb, h.but.thenAll hb, h.at_, h.lts, h.len, ⟨h.qle.1, Nat.le_trans h.qle.2 hb.size⟩, h.v0lt⟩

/-- the text lies in no block between the old ones and the new ones -/
theorem Gr.ownNe (h : Gr w q s bb n d base v0 wr i o v l) {c : Nat} (h1 : w.heap.size ≤ c) (h2 : c < q) : v.ownBlock ≠ some c := by
  rcases h.at_ with h3 | ⟨b, h3, h4⟩
  · rw [h3]; intro h5; have := (h.v0lt c h5).2; omega
  · rw [h3]; intro h5; cases h5; omega
/-- a block of the reading's own is written -/
theorem Gr.side (h : Gr w q s bb n d base v0 wr i o v l) {c : Nat} (hb : But (· = c) wr w') (h1 : w.heap.size ≤ c) (h2 : c < q) : Gr w q s bb n d base v0 w' i o v l := by
  have := h.lts
  refine ⟨⟨hb.row h.src.box (show ¬ s = c by omega), hb.row h.src.row (show ¬ bb = c by omega), h.src.lt, h.src.n1, h.src.ne⟩, h.own.keep hb (fun k hk hkc => h.ownNe h1 h2 (hkc ▸ hk)), ?_, h.at_, h.lts, h.len, ⟨h.qle.1, Nat.le_trans h.qle.2 hb.size⟩, h.v0lt⟩
  refine ⟨hb.os.trans h.but.os, hb.tape.trans h.but.tape, hb.output.trans h.but.output, Nat.le_trans h.but.size hb.size, fun k hk hn => ?_⟩
  rw [hb.block k (Nat.lt_of_lt_of_le hk h.but.size) (show ¬ k = c by omega), h.but.block k hk hn]

/-- characters are added -/
theorem Gr.app (h : Gr w q s bb n d base v0 wr i o v l) (ha : AppTo wr w' 5 base v v' (l.map byt ++ l2.map byt)) (hl : (l ++ l2).length ≤ 2 * i) : Gr w q s bb n d base v0 w' i o v' (l ++ l2) := by
  have hs1 : ∀ k, v.ownBlock = some k → ¬ (k = s ∨ k = bb) := fun k hk hks => by have := (h.own.lt hk).1; have := h.lts; omega
  refine ⟨⟨ha.but.row h.src.box (fun hk => hs1 s hk (.inl rfl)), ha.but.row h.src.row (fun hk => hs1 bb hk (.inr rfl)), h.src.lt, h.src.n1, h.src.ne⟩, ?_, ?_, ?_, h.lts, hl, ⟨h.qle.1, Nat.le_trans h.qle.2 ha.but.size⟩, h.v0lt⟩
  · have := ha.own
    rw [← List.map_append] at this
    exact this
  · refine ⟨ha.but.os.trans h.but.os, ha.but.tape.trans h.but.tape, ha.but.output.trans h.but.output, Nat.le_trans h.but.size ha.but.size, fun k hk hn => ?_⟩
    rw [ha.but.block k (Nat.lt_of_lt_of_le hk h.but.size) (fun hv => ?_), h.but.block k hk hn]
    rcases h.at_ with h1 | ⟨b, h1, h2⟩
    · exact hn (.inr (h1.symm.trans hv))
    · rw [h1] at hv; cases hv; have := h.qle.1; omega
  · rcases ha.at_ with h1 | h1
    · rw [h1]; exact h.at_
    · exact .inr ⟨_, h1, h.qle.2⟩

/-- one character is added, laid in a new block first -/
theorem Gr.app1 (h : Gr w q s bb n d base v0 wr i o v l) {ob : Obj} {X : Value} {c : Nat} (ha : AppTo (wr.alloc ob) w' 5 base v v' (l.map byt ++ [X])) (hX : X = byt c) (hl : l.length + 1 ≤ 2 * i) : Gr w q s bb n d base v0 w' i o v' (l ++ [c]) :=
  (h.all ((Below.refl _ _).alloc (Nat.le_refl _) ob)).app (l2 := [c]) (by rw [hX] at ha; exact ha) (by rw [List.length_append]; exact hl)
theorem Gr.room (h : Gr w q s bb n d base v0 wr i o v l) (hi : i ≤ 5001) : (l.map byt).length + 10000 ≤ 1000000 := by have := h.len; rw [List.length_map]; omega
theorem Gr.new (h : Gr w q s bb n d base v0 wr i o v l) (ob : Obj) : OwnB (wr.alloc ob) base v l := h.own.below ((Below.refl _ _).alloc (Nat.le_refl _) _)
theorem Gr.bs (h : Gr w q s bb n d base v0 wr i o v l) (ob : Obj) : base ≤ (wr.alloc ob).heap.size := by rw [World.size_alloc]; have := h.lts.2.2; have := h.but.size; omega
theorem Gr.newD (h : Gr w q s bb n d base v0 wr i o v l) (ob : Obj) : OwnB ((wr.alloc ob).drew) base v l := h.new ob
theorem Gr.bsD (h : Gr w q s bb n d base v0 wr i o v l) (ob : Obj) : base ≤ ((wr.alloc ob).drew).heap.size := h.bs ob
theorem Gr.appD (h : Gr w q s bb n d base v0 wr i o v l) {ob : Obj} (ha : AppTo ((wr.alloc ob).drew) w' 5 base v v' (l.map byt ++ l2.map byt)) (hl : (l ++ l2).length ≤ 2 * i) : Gr w q s bb n d base v0 w' i o v' (l ++ l2) :=
  (h.all (((Below.refl _ _).alloc (Nat.le_refl _) ob).drew)).app ha hl
/-- blocks made after the start count as new -/
theorem Gr.weak (h : Gr w q s bb n d base v0 wr i o v l) : Gr w w.heap.size s bb n d base v0 wr i o v l :=
  ⟨h.src, h.own, h.but, h.at_.imp id fun ⟨b, h1, h2⟩ => ⟨b, h1, Nat.le_trans h.qle.1 h2⟩, h.lts, h.len, ⟨Nat.le_refl _, h.but.size⟩, h.v0lt⟩
theorem Gr.alloc0 (h : Gr w q s bb n d base v w i o v l) (ob : Obj) : Gr w (w.heap.size + 1) s bb n d base v (w.alloc ob) i o v l := by
  have h1 := h.all ((Below.refl _ _).alloc (Nat.le_refl _) ob)
  exact ⟨h1.src, h1.own, h1.but, .inl rfl, h1.lts, h1.len, ⟨Nat.le_succ _, by rw [World.size_alloc]; exact Nat.le_refl _⟩, h1.v0lt⟩
/-- the text was not touched yet: all blocks till now may count as old -/
theorem Gr.req (h : Gr w q s bb n d base v0 wr i o v l) (hv : v.ownBlock = v0.ownBlock) {q' : Nat} (h1 : w.heap.size ≤ q') (h2 : q' ≤ wr.heap.size) : Gr w q' s bb n d base v0 wr i o v l :=
  ⟨h.src, h.own, h.but, .inl hv, h.lts, h.len, ⟨h1, h2⟩, h.v0lt⟩
/-- only what is made from here on counts as new -/
theorem Gr.strong (h : Gr w q s bb n d base v w i o v l) : Gr w w.heap.size s bb n d base v w i o v l := Gr.start h.src h.own h.lts h.len
end
theorem one_u8 (x : Int) : ∀ u ∈ [Value.int .u8 x], u.oneCell' = true := by intro u hu; simp at hu; subst hu; rfl

/-- what a segment's reading leaves -/
def SegTo (w : World) (s bb n : Nat) (d : Nat → Nat) (base : Nat) (v0 : Value) (i : Nat) (l : List Nat) (mk : Value → Ending) (e : Ending) (w' : World) : Prop := ∃ v, e = mk v ∧ Gr w w.heap.size s bb n d base v0 w' i 0 v l
end Go.Proofs.YtcnallabiffemaaGreatDoor
namespace Go.Proofs.YtcnallabiffemaaGreatDoor
open Go.RowKit (wrap32 wrap64 intOf Hid Below)
open Zx

/-- a byte, as it was before it was randomized -/
theorem unrC (w : World) (b p : Nat) (hb : b < 256) (hp : p ≤ 100000) : Calls Tryz.prog 185 #[.int .i64 b, .int .i64 p] w fun e w' => e = .returned (.int .i64 (unr b p)) ∧ w = w' := by
  obtain ⟨q, hq⟩ : ∃ q : Nat, 149 * p % 255 = q := ⟨_, rfl⟩
  have hq1 : q < 255 := by omega
  have m1 : (149 : Int) * (p : Int) % 255 = (q : Int) := by omega
  have l1 : (149 : Int) * (p : Int) ≤ 14900000 := by omega
  have hu : unr b p = (b + 256 - (q + 1)) % 256 := by unfold unr; rw [hq]
  have HU := Lib.hid hu; clear hu hq
  go_enter Tryz.func185, Tryz.ntmps185
  by_cases h : q + 1 ≤ b
  · go_wp2
    go_ret
    exact ⟨ret_int (by rw [HU.out]; omega), rfl⟩
  · go_wp2
    go_ret
    exact ⟨ret_int (by rw [HU.out]; omega), rfl⟩

/-- two codewords as three values -/
theorem p2b (w : World) (a b c : Nat) (f : Nat → Value) (ha : a < 256) (hb : b < 256) (h0 : 0 < 256 * a + b) (hr : w.rowIs c 3 3 f) :
    Calls Tryz.prog 178 #[.int .i64 a, .int .i64 b, .slice (some ⟨c, 0, none⟩) 3 3] w fun e w' => e = .returned (.tuple #[]) ∧
      w'.rowIs c 3 3 (fun i => if i = 0 then num ((256 * a + b - 1) / 1600) else if i = 1 then num ((256 * a + b - 1) % 1600 / 40) else num ((256 * a + b - 1) % 40)) ∧ But (· = c) w w' ∧ w'.heap.size = w.heap.size := by
  have f0 := hr.frozen 0
  have f1 := hr.frozen 1
  have f2 := hr.frozen 2
  have g0 := hr.cell (i := 0) (by decide)
  have g1 := hr.cell (i := 1) (by decide)
  have g2 := hr.cell (i := 2) (by decide)
  have HR := Lib.hid hr; clear hr
  obtain ⟨N, hN⟩ : ∃ N, 256 * a + b - 1 = N := ⟨_, rfl⟩
  have e0 : (a : Int) * 256 + (b : Int) - 1 = (N : Int) := by omega
  have l0 : N < 65536 := by omega
  obtain ⟨x, hx⟩ : ∃ x, N / 1600 = x := ⟨_, rfl⟩
  obtain ⟨y, hy⟩ : ∃ y, N % 1600 / 40 = y := ⟨_, rfl⟩
  have e1 : (N : Int) / 1600 = (x : Int) := by omega
  have e2 : ((N : Int) - (x : Int) * 1600) / 40 = (y : Int) := by omega
  have e3 : (N : Int) - (x : Int) * 1600 - (y : Int) * 40 = ((N % 40 : Nat) : Int) := by omega
  have l1 : (x : Int) * 1600 ≤ 65536 := by omega
  have l2 : (y : Int) * 40 ≤ 1600 := by omega
  rw [hN, hx, hy]
  have E3 := Lib.hid e3; clear e3
  clear hN hx hy
  go_enter Tryz.func178, Tryz.ntmps178
  go_wp2
  refine bodyPost_end (results_none rfl _ _ _) rfl ?_
  rw [E3.out]
  refine ⟨rfl, (((HR.out.set 0 _).set 1 _).set 2 _).congr fun i hi => ?_, (((But.refl (· = c) w).thenSet (a := ⟨c, 0, none⟩) (.inl rfl) _).thenSet (a := ⟨c, 1, none⟩) (.inl rfl) _).thenSet (a := ⟨c, 2, none⟩) (.inl rfl) _, by rw [World.size_setCell, World.size_setCell, World.size_setCell]⟩
  match i, hi with
  | 0, _ => rfl
  | 1, _ => rfl
  | 2, _ => rfl

set_option maxRecDepth 100000 in
set_option maxHeartbeats 2000000 in
theorem small2 (i : Nat) (h : i < 100) (w : World) : Calls Tryz.prog 233 #[.int .i64 i] w fun e w' => (∃ s : ByteArray, e = .returned (.string s) ∧ s.data.toList = Lib.decDigits i) ∧ w = w' := by
  go_enter Tryz.func233, Tryz.ntmps233
  go_name_bytes_deep 45 SM hSM
  have eSM : SM = Lib.smalls := by rw [← hSM]; decide +kernel
  subst eSM
  clear hSM
  go_name_bytes_deep 30 DG hDG
  have eDG : DG = Lib.digits36 := by rw [← hDG]; decide +kernel
  subst eDG
  clear hDG
  by_cases h10 : i < 10
  · have hsl : ∀ w, (Instr.slice 9 (.string Lib.digits36) (some (.int .i64 (i : Int))) (some (.int .i64 ((i : Int) + 1))) none).run Tryz.prog w = .ok (.string (Lib.digits36.extract i (i + 1))) w := fun w => by
      rw [run_slice_string w 9 Lib.digits36 .i64 .i64 _ _ Tryz.underlying9 (by omega) (by omega) (by rw [Lib.digits36_size]; omega), show ((i : Int)).toNat = i by omega, show ((i : Int) + 1).toNat = i + 1 by omega]
    go_wp2
    go_ret
    exact ⟨⟨_, rfl, by rw [Lib.extract_data]; exact Lib.digits36_piece h10⟩, rfl⟩
  · have hsl : ∀ w, (Instr.slice 9 (.string Lib.smalls) (some (.int .i64 ((i : Int) * 2))) (some (.int .i64 ((i : Int) * 2 + 2))) none).run Tryz.prog w = .ok (.string (Lib.smalls.extract (i * 2) (i * 2 + 2))) w := fun w => by
      rw [run_slice_string w 9 Lib.smalls .i64 .i64 _ _ Tryz.underlying9 (by omega) (by omega) (by rw [Lib.smalls_size]; omega), show ((i : Int) * 2).toNat = i * 2 by omega, show ((i : Int) * 2 + 2).toNat = i * 2 + 2 by omega]
    go_wp2
    go_ret
    exact ⟨⟨_, rfl, by rw [Lib.extract_data]; exact Lib.smalls_piece h10 h⟩, rfl⟩

def StrTo (w : World) (l : List UInt8) (e : Ending) (w' : World) : Prop := (∃ s : ByteArray, e = .returned (.string s) ∧ s.data.toList = l) ∧ w = w'
theorem fmt2 (i : Nat) (h : i < 100) (w : World) : Calls Tryz.prog 229 #[.int .i64 i, .int .i64 10] w (StrTo w (Lib.decDigits i)) := by
  go_enter Tryz.func229, Tryz.ntmps229
  go_wp2_with fail
  refine (small2 i h w).mono ?_
  rintro e w' ⟨⟨s, rfl, hs⟩, rfl⟩
  have HS := Lib.hid hs; clear hs
  go_wp2
  go_ret
  exact ⟨⟨s, rfl, HS.out⟩, rfl⟩
theorem itoa2 (i : Nat) (h : i < 100) (w : World) : Calls Tryz.prog 220 #[.int .i64 i] w (StrTo w (Lib.decDigits i)) := by
  go_enter Tryz.func220, Tryz.ntmps220
  go_wp2_with fail
  refine (fmt2 i h w).mono ?_
  rintro e w' ⟨⟨s, rfl, hs⟩, rfl⟩
  have HS := Lib.hid hs; clear hs
  go_wp2
  go_ret
  exact ⟨⟨s, rfl, HS.out⟩, rfl⟩
theorem itoaC (i : Nat) (h : i < 100) (w : World) : Calls Tryz.prog 176 #[.int .i64 i] w (StrTo w (Lib.decDigits i)) := by
  go_enter Tryz.func176, Tryz.ntmps176
  go_wp2_with fail
  refine (itoa2 i h w).mono ?_
  rintro e w' ⟨⟨s, rfl, hs⟩, rfl⟩
  have HS := Lib.hid hs; clear hs
  go_wp2
  go_ret
  exact ⟨⟨s, rfl, HS.out⟩, rfl⟩
end Go.Proofs.YtcnallabiffemaaGreatDoor
