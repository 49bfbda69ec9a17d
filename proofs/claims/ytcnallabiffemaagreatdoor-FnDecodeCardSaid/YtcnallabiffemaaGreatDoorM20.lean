import Derived.Test.YtcnallabiffemaaGreatDoorM15
import Derived.Test.YtcnallabiffemaaGreatDoorM19
/- Part of the proof that a Data Matrix symbol of a text, damaged at most to half of its check codewords in each block, is decoded to the text (FnDecode): texts Vc Vd. -/
set_option linter.unusedVariables false
set_option linter.unusedSimpArgs false
namespace Go.Proofs.YtcnallabiffemaaGreatDoor
open Go.RowKit (wrap32 wrap64 intOf Hid Below)
open Zx

def verAt (i : Nat) : Ver := verTab.getD i ⟨0, 0, 0, 0, 0, 0, []⟩

theorem and1_even (a : Nat) (ha : a < 1000) (he : a % 2 = 0) : (bits .and .i64 (a : Int) 1 != 0) = false := by
  have := and_i64 a 1 (by omega) (by decide)
  rw [show ((1 : Nat) : Int) = 1 from rfl, Nat.and_one_is_mod, he] at this
  rw [this]; rfl

set_option maxRecDepth 100000 in
theorem findVer (w : World) (rows cols i0 : Nat) (hi : i0 < 48) (hr : (verAt i0).rows = rows ∧ (verAt i0).cols = cols) (hno : ∀ j, j < i0 → ¬ ((verAt j).rows = rows ∧ (verAt j).cols = cols))
    (h1 : rows < 1000 ∧ rows % 2 = 0) (h2 : cols < 1000 ∧ cols % 2 = 0) :
    Calls Tryz.prog 157 #[.int .i64 rows, .int .i64 cols] w fun e w' => ∃ p, e = .returned (.tuple #[pt p, .nilIface]) ∧ VerOk w' p (verAt i0) ∧ Below w.heap.size w w' := by
  have a1 := and1_even rows h1.1 h1.2
  have a2 := and1_even cols h2.1 h2.2
  have HR := Lib.hid hr; clear hr
  have HNO := Lib.hid hno; clear hno
  go_enter Tryz.func157, Tryz.ntmps157
  go_wp2_with fail
  refine (versC w).mono ?_
  rintro e w1 ⟨b, L, rfl, hL, hall, hcell, hb, hbl⟩
  have len : L.length = 48 := by have := congrArg List.length hL; simpa [verTab] using this
  have at_ : ∀ j, j < 48 → VerOk w1 ((L.getD j (0, ⟨0, 0, 0, 0, 0, 0, []⟩)).1) (verAt j) := fun j hj => by
    have hj' : j < L.length := by omega
    have e1 : L.getD j (0, ⟨0, 0, 0, 0, 0, 0, []⟩) = L[j] := by rw [List.getD_eq_getElem?_getD, List.getElem?_eq_getElem hj']; rfl
    rw [e1]
    have := hall L[j] (List.getElem_mem hj')
    have e2 : verAt j = L[j].2 := by
      unfold verAt
      rw [← hL, List.getD_eq_getElem?_getD, List.getElem?_map, List.getElem?_eq_getElem hj']; rfl
    rw [e2]; exact this
  have cell_ : ∀ j, j < 48 → w1.cell? ⟨b, j, none⟩ = some (pt (L.getD j (0, ⟨0, 0, 0, 0, 0, 0, []⟩)).1) := fun j hj => by
    have hj' : j < L.length := by omega
    rw [hcell j hj, List.getElem?_map, List.getElem?_eq_getElem hj', List.getD_eq_getElem?_getD, List.getElem?_eq_getElem hj']; rfl
  have AT := Lib.hid at_; clear at_
  have CELL := Lib.hid cell_; clear cell_
  have HBL := Lib.hid hbl; clear hbl
  clear hL hall hcell len
  go_wp2_with fail
  go_loop [25] (fun i => ∃ k : Nat, k ≤ i0 ∧ i = .int .i64 k) (fun i => 48 - (intOf i).toNat)
  case atStart => exact ⟨0, Nat.zero_le _, rfl⟩
  case round =>
    obtain ⟨k, hk, rfl⟩ := hrel
    have ck := CELL.out k (by omega)
    obtain ⟨⟨eb, g0, g1, g2, _⟩, _⟩ := AT.out k (by omega)
    obtain ⟨p, hp⟩ : ∃ p, (L.getD k (0, ⟨0, 0, 0, 0, 0, 0, []⟩)).1 = p := ⟨_, rfl⟩
    rw [hp] at ck g0 g1 g2
    have g3 : (k : Int) < 48 := by omega
    by_cases hki : k = i0
    · subst hki
      have e1 := HR.out.1
      have e2 := HR.out.2
      rw [e1] at g1
      rw [e2] at g2
      have AK := AT.out k (by omega)
      rw [hp] at AK
      have AKK := Lib.hid AK; clear AK e1 e2 g0
      go_wp2
      go_ret2
      exact ⟨p, rfl, AKK.out, HBL.out⟩
    · have hne := HNO.out k (by omega)
      by_cases hr : (verAt k).rows = rows
      · have hc : ¬ (verAt k).cols = cols := fun h => hne ⟨hr, h⟩
        have q1 := int_bt (a := ((verAt k).rows : Int)) (b := (rows : Int)) (by omega)
        have q2 := int_bf (a := ((verAt k).cols : Int)) (b := (cols : Int)) (by omega)
        clear hne hr hc g0
        go_wp2
        go_round
        case rel => exact ⟨k + 1, by omega, by go_num⟩
        case measure => simp [intOf]; omega
      · have q1 := int_bf (a := ((verAt k).rows : Int)) (b := (rows : Int)) (by omega)
        clear hne hr g0
        go_wp2
        go_round
        case rel => exact ⟨k + 1, by omega, by go_num⟩
        case measure => simp [intOf]; omega
end Go.Proofs.YtcnallabiffemaaGreatDoor
namespace Go.Proofs.YtcnallabiffemaaGreatDoor
open Go.RowKit (wrap32 wrap64 intOf Hid Below)
open Zx

theorem hgtC (w : World) (p b W H : Nat) (ws : Nat → Nat) (h : Bm w p b W H ws) : Calls Tryz.prog 40 #[pt p] w fun e w' => e = .returned (.int .i64 H) ∧ w = w' := by
  have c1 : w.cell? ⟨p, 1, none⟩ = some (.int .i64 H) := h.box.cell (i := 1) (by omega)
  clear h
  go_enter Tryz.func40, Tryz.ntmps40
  go_wp2
  go_ret
  exact ⟨rfl, rfl⟩
theorem wdtC (w : World) (p b W H : Nat) (ws : Nat → Nat) (h : Bm w p b W H ws) : Calls Tryz.prog 41 #[pt p] w fun e w' => e = .returned (.int .i64 W) ∧ w = w' := by
  have c1 : w.cell? ⟨p, 0, none⟩ = some (.int .i64 W) := h.box.cell (i := 0) (by omega)
  clear h
  go_enter Tryz.func41, Tryz.ntmps41
  go_wp2
  go_ret
  exact ⟨rfl, rfl⟩
theorem totC (w : World) (p : Nat) (v : Ver) (h : VerOk w p v) : Calls Tryz.prog 81 #[pt p] w fun e w' => e = .returned (.int .i64 (totK v.ec v.bl v.bl.length)) ∧ w = w' := by
  obtain ⟨⟨eb, h0, h1, h2, h3, h4, h5, h6, h7⟩, h8⟩ := h
  clear h7
  go_enter Tryz.func81, Tryz.ntmps81
  go_wp2
  go_ret
  exact ⟨rfl, rfl⟩

theorem readVer (w : World) (p b W H : Nat) (ws : Nat → Nat) (h : Bm w p b W H ws) (i0 : Nat) (hi : i0 < 48) (hr : (verAt i0).rows = H ∧ (verAt i0).cols = W) (hno : ∀ j, j < i0 → ¬ ((verAt j).rows = H ∧ (verAt j).cols = W))
    (h1 : H < 1000 ∧ H % 2 = 0) (h2 : W < 1000 ∧ W % 2 = 0) :
    Calls Tryz.prog 79 #[pt p] w fun e w' => ∃ q, e = .returned (.tuple #[pt q, .nilIface]) ∧ VerOk w' q (verAt i0) ∧ Below w.heap.size w w' := by
  have HH := Lib.hid h; clear h
  have HR := Lib.hid hr; clear hr
  have HN := Lib.hid hno; clear hno
  go_enter Tryz.func79, Tryz.ntmps79
  go_wp2_with fail
  refine (hgtC w p b W H ws HH.out).mono ?_
  rintro e w' ⟨rfl, rfl⟩
  go_wp2_with fail
  refine (wdtC w p b W H ws HH.out).mono ?_
  rintro e w' ⟨rfl, rfl⟩
  go_wp2_with fail
  refine (findVer w H W i0 hi HR.out HN.out h1 h2).mono ?_
  rintro e w1 ⟨q, rfl, hv, hb⟩
  have HV := Lib.hid hv; clear hv
  go_wp2
  go_ret2
  exact ⟨q, rfl, HV.out, hb⟩
end Go.Proofs.YtcnallabiffemaaGreatDoor
