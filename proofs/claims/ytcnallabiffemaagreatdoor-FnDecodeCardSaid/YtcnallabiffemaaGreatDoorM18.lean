import Derived.Test.YtcnallabiffemaaGreatDoorM06
import Derived.Test.YtcnallabiffemaaGreatDoorM15
/- Part of the proof that a Data Matrix symbol of a text, damaged at most to half of its check codewords in each block, is decoded to the text (FnDecode): texts Pn Va. -/
set_option linter.unusedVariables false
set_option linter.unusedSimpArgs false
namespace Zx

theorem runD_bnd {R C : Int} {n ph : Nat} {s : DS} {L : List Shp} (h : runD R C n ph s L = true) : -200 ≤ s.row ∧ s.row ≤ 200 ∧ -200 ≤ s.col ∧ s.col ≤ 200 := by
  cases n with
  | zero => cases h
  | succ n => unfold runD at h; exact of_decide_eq_true (Bool.and_eq_true _ _ ▸ h).1

theorem shp_eq {a b : Shp} (h : (a == b) = true) : a = b := by simpa using h

/-- a shape is taken -/
def tk (R C : Int) (sh : Shp) (L : List Shp) (s : DS) (g : DS → List Shp → Bool) : Bool := match L with
  | sh' :: L' => (sh == sh') && match take8 R C sh s.V with
    | some V => g { s with V := V } L'
    | none => false
  | [] => false
theorem tk_spec {R C : Int} {sh : Shp} {L : List Shp} {s : DS} {g : DS → List Shp → Bool} (h : tk R C sh L s g = true) : ∃ L' V, L = sh :: L' ∧ take8 R C sh s.V = some V ∧ g { s with V := V } L' = true := by
  unfold tk at h
  split at h
  · rename_i sh' L'
    have h1 := Bool.and_eq_true _ _ ▸ h
    have h2 := shp_eq h1.1
    have h3 := h1.2
    split at h3
    · rename_i V hV; exact ⟨L', V, by rw [h2], hV, h3⟩
    · cases h3
  · cases h

theorem runD_0 {R C : Int} {n : Nat} {s : DS} {L : List Shp} (h : runD R C n 0 s L = true) : ∃ m, n = m + 1 ∧
    (if s.row = R ∧ s.col = 0 ∧ s.f1 = false then tk R C (corn1 R C) L s (fun s L => runD R C m 3 { s with row := s.row - 2, col := s.col + 2, f1 := true } L)
      else if s.row = R - 2 ∧ s.col = 0 ∧ C % 4 ≠ 0 ∧ s.f2 = false then tk R C (corn2 R C) L s (fun s L => runD R C m 3 { s with row := s.row - 2, col := s.col + 2, f2 := true } L)
      else if s.row = R + 4 ∧ s.col = 2 ∧ C % 8 = 0 ∧ s.f3 = false then tk R C (corn3 R C) L s (fun s L => runD R C m 3 { s with row := s.row - 2, col := s.col + 2, f3 := true } L)
      else if s.row = R - 2 ∧ s.col = 0 ∧ C % 8 = 4 ∧ s.f4 = false then tk R C (corn4 R C) L s (fun s L => runD R C m 3 { s with row := s.row - 2, col := s.col + 2, f4 := true } L)
      else runD R C m 1 s L) = true := by
  cases n with
  | zero => cases h
  | succ m =>
    refine ⟨m, rfl, ?_⟩
    unfold runD at h
    exact (Bool.and_eq_true _ _ ▸ h).2

theorem runD_1 {R C : Int} {n : Nat} {s : DS} {L : List Shp} (h : runD R C n 1 s L = true) : ∃ m, n = m + 1 ∧
    (if s.row < R ∧ s.col ≥ 0 then inR R C (s.row, s.col) && (if s.V.testBit (ix C (s.row, s.col)) then runD R C m 4 s L
        else tk R C (utahS R C s.row s.col) L s (fun s L => runD R C m 4 s L)) else runD R C m 4 s L) = true := by
  cases n with
  | zero => cases h
  | succ m =>
    refine ⟨m, rfl, ?_⟩
    unfold runD at h
    exact (Bool.and_eq_true _ _ ▸ h).2
theorem runD_2 {R C : Int} {n : Nat} {s : DS} {L : List Shp} (h : runD R C n 2 s L = true) : ∃ m, n = m + 1 ∧
    (if s.row ≥ 0 ∧ s.col < C then inR R C (s.row, s.col) && (if s.V.testBit (ix C (s.row, s.col)) then runD R C m 5 s L
        else tk R C (utahS R C s.row s.col) L s (fun s L => runD R C m 5 s L)) else runD R C m 5 s L) = true := by
  cases n with
  | zero => cases h
  | succ m =>
    refine ⟨m, rfl, ?_⟩
    unfold runD at h
    exact (Bool.and_eq_true _ _ ▸ h).2
theorem runD_4 {R C : Int} {n : Nat} {s : DS} {L : List Shp} (h : runD R C n 4 s L = true) : ∃ m, n = m + 1 ∧
    (if s.row - 2 ≥ 0 ∧ s.col + 2 < C then runD R C m 1 { s with row := s.row - 2, col := s.col + 2 } L else runD R C m 2 { s with row := s.row - 1, col := s.col + 5 } L) = true := by
  cases n with
  | zero => cases h
  | succ m =>
    refine ⟨m, rfl, ?_⟩
    unfold runD at h
    exact (Bool.and_eq_true _ _ ▸ h).2
theorem runD_5 {R C : Int} {n : Nat} {s : DS} {L : List Shp} (h : runD R C n 5 s L = true) : ∃ m, n = m + 1 ∧
    (if s.row + 2 < R ∧ s.col - 2 ≥ 0 then runD R C m 2 { s with row := s.row + 2, col := s.col - 2 } L else runD R C m 3 { s with row := s.row + 5, col := s.col - 1 } L) = true := by
  cases n with
  | zero => cases h
  | succ m =>
    refine ⟨m, rfl, ?_⟩
    unfold runD at h
    exact (Bool.and_eq_true _ _ ▸ h).2
theorem runD_3 {R C : Int} {n : Nat} {s : DS} {L : List Shp} (h : runD R C n 3 s L = true) : ∃ m, n = m + 1 ∧
    (if s.row < R ∨ s.col < C then runD R C m 0 s L else L.isEmpty) = true := by
  cases n with
  | zero => cases h
  | succ m =>
    refine ⟨m, rfl, ?_⟩
    unfold runD at h
    exact (Bool.and_eq_true _ _ ▸ h).2
end Zx
namespace Go.Proofs.YtcnallabiffemaaGreatDoor
open Go.RowKit (wrap32 wrap64 intOf Hid Below)
open Zx

/-- blocks of a version: how many with how many data codewords -/
def bc (l : List (Nat × Nat)) (j : Nat) : Nat := (l.getD j (0, 0)).1
def bd (l : List (Nat × Nat)) (j : Nat) : Nat := (l.getD j (0, 0)).2

structure EcbOk (w : World) (eb ec : Nat) (l : List (Nat × Nat)) : Prop where
  ex : ∃ ab, w.cell? ⟨eb, 0, none⟩ = some (.int .i64 ec) ∧ w.cell? ⟨eb, 1, none⟩ = some (.slice (some ⟨ab, 0, none⟩) l.length l.length) ∧
    (∀ j, j < l.length → w.cell? ⟨ab, j * 2, none⟩ = some (.int .i64 (bc l j)) ∧ w.cell? ⟨ab, j * 2 + 1, none⟩ = some (.int .i64 (bd l j))) ∧ ab < w.heap.size
  lt : eb < w.heap.size

theorem EcbOk.below {w w' : World} {eb ec : Nat} {l : List (Nat × Nat)} (h : EcbOk w eb ec l) (hw : Below w.heap.size w w') : EcbOk w' eb ec l := by
  obtain ⟨⟨ab, h1, h2, h3, h4⟩, h5⟩ := h
  exact ⟨⟨ab, (hw.cell (p := ⟨eb, 0, none⟩) h5).trans h1, (hw.cell (p := ⟨eb, 1, none⟩) h5).trans h2,
    fun j hj => ⟨(hw.cell (p := ⟨ab, j * 2, none⟩) h4).trans (h3 j hj).1, (hw.cell (p := ⟨ab, j * 2 + 1, none⟩) h4).trans (h3 j hj).2⟩, Nat.lt_of_lt_of_le h4 hw.size⟩, Nat.lt_of_lt_of_le h5 hw.size⟩

structure Ver where
  (no rows cols rr rc ec : Nat) (bl : List (Nat × Nat))

/-- all codewords of the first k kinds of blocks -/
def totK (ec : Nat) (l : List (Nat × Nat)) : Nat → Nat
  | 0 => 0
  | k + 1 => totK ec l k + bc l k * (bd l k + ec)

structure VerOk (w : World) (p : Nat) (v : Ver) : Prop where
  ex : ∃ eb, w.cell? ⟨p, 0, none⟩ = some (.int .i64 v.no) ∧ w.cell? ⟨p, 1, none⟩ = some (.int .i64 v.rows) ∧ w.cell? ⟨p, 2, none⟩ = some (.int .i64 v.cols) ∧ w.cell? ⟨p, 3, none⟩ = some (.int .i64 v.rr) ∧
    w.cell? ⟨p, 4, none⟩ = some (.int .i64 v.rc) ∧ w.cell? ⟨p, 5, none⟩ = some (pt eb) ∧ w.cell? ⟨p, 6, none⟩ = some (.int .i64 (totK v.ec v.bl v.bl.length)) ∧ EcbOk w eb v.ec v.bl
  lt : p < w.heap.size

theorem VerOk.below {w w' : World} {p : Nat} {v : Ver} (h : VerOk w p v) (hw : Below w.heap.size w w') : VerOk w' p v := by
  obtain ⟨⟨eb, h0, h1, h2, h3, h4, h5, h6, h7⟩, h8⟩ := h
  exact ⟨⟨eb, (hw.cell (p := ⟨p, 0, none⟩) h8).trans h0, (hw.cell (p := ⟨p, 1, none⟩) h8).trans h1, (hw.cell (p := ⟨p, 2, none⟩) h8).trans h2, (hw.cell (p := ⟨p, 3, none⟩) h8).trans h3,
    (hw.cell (p := ⟨p, 4, none⟩) h8).trans h4, (hw.cell (p := ⟨p, 5, none⟩) h8).trans h5, (hw.cell (p := ⟨p, 6, none⟩) h8).trans h6, h7.below hw⟩, Nat.lt_of_lt_of_le h8 hw.size⟩

theorem ecC (w : World) (eb ec : Nat) (l : List (Nat × Nat)) (h : EcbOk w eb ec l) : Calls Tryz.prog 91 #[pt eb] w fun e w' => e = .returned (.int .i64 ec) ∧ w = w' := by
  obtain ⟨⟨ab, h1, h2, h3, h4⟩, h5⟩ := h
  clear h3
  go_enter Tryz.func91, Tryz.ntmps91
  go_wp2
  go_ret
  exact ⟨rfl, rfl⟩
theorem ebsC (w : World) (eb ec ab : Nat) (l : List (Nat × Nat)) (h : w.cell? ⟨eb, 1, none⟩ = some (.slice (some ⟨ab, 0, none⟩) l.length l.length)) : Calls Tryz.prog 88 #[pt eb] w fun e w' => e = .returned (.slice (some ⟨ab, 0, none⟩) l.length l.length) ∧ w = w' := by
  go_enter Tryz.func88, Tryz.ntmps88
  go_wp2
  go_ret
  exact ⟨rfl, rfl⟩
theorem cntC (w : World) (p c d : Nat) (h : w.cell? ⟨p, 0, none⟩ = some (.int .i64 c)) : Calls Tryz.prog 89 #[pt p] w fun e w' => e = .returned (.int .i64 c) ∧ w = w' := by
  go_enter Tryz.func89, Tryz.ntmps89
  go_wp2
  go_ret
  exact ⟨rfl, rfl⟩
theorem datC (w : World) (p c d : Nat) (h : w.cell? ⟨p, 1, none⟩ = some (.int .i64 d)) : Calls Tryz.prog 90 #[pt p] w fun e w' => e = .returned (.int .i64 d) ∧ w = w' := by
  go_enter Tryz.func90, Tryz.ntmps90
  go_wp2
  go_ret
  exact ⟨rfl, rfl⟩

def ver0 (no rows cols rr rc eb t : Nat) : Nat → Value := fun i => if i = 0 then .int .i64 no else if i = 1 then .int .i64 rows else if i = 2 then .int .i64 cols else if i = 3 then .int .i64 rr else if i = 4 then .int .i64 rc else if i = 5 then pt eb else .int .i64 t

set_option maxRecDepth 100000 in
theorem newVer (w : World) (v : Ver) (eb : Nat) (h : EcbOk w eb v.ec v.bl) (hl : v.bl.length ≤ 2) (hb : ∀ j, j < v.bl.length → bc v.bl j ≤ 100 ∧ bd v.bl j ≤ 2000) (he : v.ec ≤ 1000) :
    Calls Tryz.prog 228 #[.int .i64 v.no, .int .i64 v.rows, .int .i64 v.cols, .int .i64 v.rr, .int .i64 v.rc, pt eb] w fun e w' => ∃ p, e = .returned (pt p) ∧ VerOk w' p v ∧ Below w.heap.size w w' := by
  have HE := Lib.hid h
  obtain ⟨⟨ab, h1, h2, h3, h4⟩, h5⟩ := h
  have H3 := Lib.hid h3; clear h3
  have HB := Lib.hid hb; clear hb
  go_enter Tryz.func228, Tryz.ntmps228
  go_wp2_with fail
  have r0 := World.rowIs_alloc w #[Value.int .i64 v.no, .int .i64 v.rows, .int .i64 v.cols, .int .i64 v.rr, .int .i64 v.rc, pt eb, .int .i64 0] 230 (ver0 v.no v.rows v.cols v.rr v.rc eb 0) (fun i hi' => by
      match i, hi' with
      | 0, _ => rfl
      | 1, _ => rfl
      | 2, _ => rfl
      | 3, _ => rfl
      | 4, _ => rfl
      | 5, _ => rfl
      | 6, _ => rfl
      | n + 7, h => exact absurd h (by simp))
  have b0 : Below w.heap.size w (w.alloc (.cells #[Value.int .i64 v.no, .int .i64 v.rows, .int .i64 v.cols, .int .i64 v.rr, .int .i64 v.rc, pt eb, .int .i64 0] 230)) := (Below.refl _ _).alloc (Nat.le_refl _) _
  have E0 := Lib.hid (HE.out.below b0)
  have g2 := (b0.cell (p := ⟨eb, 1, none⟩) h5).trans h2
  have R0 := Lib.hid r0; clear r0
  have B0 := Lib.hid b0; clear b0
  refine (ecC _ eb _ _ E0.out).mono ?_
  rintro e w' ⟨rfl, rfl⟩
  go_wp2_with fail
  refine (ebsC _ eb v.ec ab _ g2).mono ?_
  rintro e w' ⟨rfl, rfl⟩
  go_wp2_with fail
  go_loopw [14, 51] (fun t i wr => ∃ k : Nat, k ≤ v.bl.length ∧ i = .int .i64 k ∧ t = .int .i64 (totK v.ec v.bl k) ∧ totK v.ec v.bl k ≤ k * 300000 ∧ wr.rowIs w.heap.size 230 7 (ver0 v.no v.rows v.cols v.rr v.rc eb 0) ∧ Below w.heap.size w wr)
    (fun _ i _ => v.bl.length - (intOf i).toNat)
  case atStart => exact ⟨0, Nat.zero_le _, rfl, rfl, Nat.le_refl _, R0.out, B0.out⟩
  case round =>
    obtain ⟨k, hk, rfl, rfl, ht, hr, hb⟩ := hrel
    have HR := Lib.hid hr; clear hr
    have HBL := Lib.hid hb; clear hb
    by_cases hkl : k < v.bl.length
    · have c1 := (HBL.out.cell (p := ⟨ab, k * 2, none⟩) h4).trans (H3.out k hkl).1
      have c2 := (HBL.out.cell (p := ⟨ab, k * 2 + 1, none⟩) h4).trans (H3.out k hkl).2
      have bb := HB.out k hkl
      have hm : bc v.bl k * (bd v.bl k + v.ec) ≤ 100 * 3000 := Nat.mul_le_mul bb.1 (by omega)
      have em : (bc v.bl k : Int) * ((bd v.bl k : Int) + (v.ec : Int)) = ((bc v.bl k * (bd v.bl k + v.ec) : Nat) : Int) := by simp
      have hto : totK v.ec v.bl (k + 1) = totK v.ec v.bl k + bc v.bl k * (bd v.bl k + v.ec) := rfl
      obtain ⟨pr, hpr⟩ : ∃ pr, bc v.bl k * (bd v.bl k + v.ec) = pr := ⟨_, rfl⟩
      rw [hpr] at hm em hto
      have TO := Lib.hid hto; clear hto
      go_wp2_with fail
      refine (cntC _ wr.heap.size (bc v.bl k) 0 (World.cell?_alloc_new wr _ _ 0)).mono ?_
      rintro e w' ⟨rfl, rfl⟩
      go_wp2_with fail
      refine (datC _ wr.heap.size 0 (bd v.bl k) (World.cell?_alloc_new wr _ _ 1)).mono ?_
      rintro e w' ⟨rfl, rfl⟩
      go_wp2
      go_roundw
      case rel => exact ⟨k + 1, by omega, by go_num, by rw [TO.out]; go_num, by rw [TO.out]; omega, HR.out.alloc _, HBL.out.alloc HBL.out.size _⟩
      case measure => simp [intOf]; omega
    · obtain rfl : k = v.bl.length := by omega
      have c6 := HR.out.cell (i := 6) (by omega)
      have c6' : wr.cell? ⟨w.heap.size, 6, none⟩ = some (.int .i64 0) := c6
      clear c6
      have f6 := HR.out.frozen 6
      go_wp2
      go_ret
      have r6 := HR.out.set 6 (.int .i64 (totK v.ec v.bl v.bl.length))
      have b6 := HBL.out.setCell (p := ⟨w.heap.size, 6, none⟩) (Nat.le_refl _) (.int .i64 (totK v.ec v.bl v.bl.length))
      exact ⟨w.heap.size, rfl, ⟨⟨eb, r6.cell (i := 0) (by omega), r6.cell (i := 1) (by omega), r6.cell (i := 2) (by omega), r6.cell (i := 3) (by omega), r6.cell (i := 4) (by omega), r6.cell (i := 5) (by omega), r6.cell (i := 6) (by omega), HE.out.below b6⟩, r6.lt⟩, b6⟩
end Go.Proofs.YtcnallabiffemaaGreatDoor
