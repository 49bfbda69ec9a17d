import Derived.Test.YtcnallabiffemaaGreatDoorM12
import Derived.Test.YtcnallabiffemaaGreatDoorM18
import Derived.Test.YtcnallabiffemaaGreatDoorP05
/- Part of the proof that a Data Matrix symbol of a text, damaged at most to half of its check codewords in each block, is decoded to the text (FnDecode): texts E20 E21 E22 E23. -/
set_option linter.unusedVariables false
set_option linter.unusedSimpArgs false
namespace Zx

/-- the encoder's walk -/
structure ES where
  row : Int
  col : Int
  V : Nat
def bndE (s : ES) : Bool := decide (-200 ≤ s.row ∧ s.row ≤ 200 ∧ -200 ≤ s.col ∧ s.col ≤ 200)
/-- a shape is taken -/
def tkE (R C : Int) (sh : Shp) (L : List Shp) (s : ES) (g : ES → List Shp → Bool) : Bool := match L with
  | sh' :: L' => (sh == sh') && match take8 R C sh s.V with
    | some V => g { s with V := V } L'
    | none => false
  | [] => false
/-- what the encoder's walk lays is L: phases: 0 the head, 1 upwards, 2 downwards, 3 the end's test -/
def runE (R C : Int) : Nat → Nat → ES → List Shp → Bool
  | 0, _, _, _ => false
  | n + 1, ph, s, L => bndE s &&
    match ph with
    | 0 => match corner R C s.row s.col with
      | none => runE R C n 1 s L
      | some sh => tkE R C sh L s (fun s L => runE R C n 1 s L)
    | 1 =>
      if s.row < R ∧ s.col ≥ 0 then inR R C (s.row, s.col) && (
        if s.V.testBit (ix C (s.row, s.col)) then runE R C n 4 s L
        else tkE R C (utahS R C s.row s.col) L s (fun s L => runE R C n 4 s L))
      else runE R C n 4 s L
    | 4 => if s.row - 2 < 0 ∨ s.col + 2 ≥ C then runE R C n 2 { s with row := s.row - 1, col := s.col + 5 } L
      else runE R C n 1 { s with row := s.row - 2, col := s.col + 2 } L
    | 2 =>
      if s.row ≥ 0 ∧ s.col < C then inR R C (s.row, s.col) && (
        if s.V.testBit (ix C (s.row, s.col)) then runE R C n 5 s L
        else tkE R C (utahS R C s.row s.col) L s (fun s L => runE R C n 5 s L))
      else runE R C n 5 s L
    | 5 => if s.row + 2 ≥ R ∨ s.col - 2 < 0 then runE R C n 3 { s with row := s.row + 5, col := s.col - 1 } L
      else runE R C n 2 { s with row := s.row + 2, col := s.col - 2 } L
    | _ => if s.row ≥ R ∧ s.col ≥ C then L.isEmpty else runE R C n 0 s L
def okE (R C : Int) : Bool := runE R C (fuelD R C) 0 ⟨4, 0, 0⟩ (layN R C)

theorem runE_bnd {R C : Int} {n ph : Nat} {s : ES} {L : List Shp} (h : runE R C n ph s L = true) : -200 ≤ s.row ∧ s.row ≤ 200 ∧ -200 ≤ s.col ∧ s.col ≤ 200 := by
  cases n with
  | zero => cases h
  | succ n => unfold runE at h; exact of_decide_eq_true (Bool.and_eq_true _ _ ▸ h).1
theorem tkE_spec {R C : Int} {sh : Shp} {L : List Shp} {s : ES} {g : ES → List Shp → Bool} (h : tkE R C sh L s g = true) : ∃ L' V, L = sh :: L' ∧ take8 R C sh s.V = some V ∧ g { s with V := V } L' = true := by
  unfold tkE at h
  split at h
  · rename_i sh' L'
    have h1 := Bool.and_eq_true _ _ ▸ h
    have h2 := shp_eq h1.1
    have h3 := h1.2
    split at h3
    · rename_i V hV; exact ⟨L', V, by rw [h2], hV, h3⟩
    · cases h3
  · cases h
theorem runE_0 {R C : Int} {n : Nat} {s : ES} {L : List Shp} (h : runE R C n 0 s L = true) : ∃ m, n = m + 1 ∧
    (match corner R C s.row s.col with
      | none => runE R C m 1 s L
      | some sh => tkE R C sh L s (fun s L => runE R C m 1 s L)) = true := by
  cases n with
  | zero => cases h
  | succ m =>
    refine ⟨m, rfl, ?_⟩
    unfold runE at h
    exact (Bool.and_eq_true _ _ ▸ h).2
theorem runE_1 {R C : Int} {n : Nat} {s : ES} {L : List Shp} (h : runE R C n 1 s L = true) : ∃ m, n = m + 1 ∧
    (if s.row < R ∧ s.col ≥ 0 then inR R C (s.row, s.col) && (
        if s.V.testBit (ix C (s.row, s.col)) then runE R C m 4 s L
        else tkE R C (utahS R C s.row s.col) L s (fun s L => runE R C m 4 s L))
      else runE R C m 4 s L) = true := by
  cases n with
  | zero => cases h
  | succ m =>
    refine ⟨m, rfl, ?_⟩
    unfold runE at h
    exact (Bool.and_eq_true _ _ ▸ h).2
theorem runE_2 {R C : Int} {n : Nat} {s : ES} {L : List Shp} (h : runE R C n 2 s L = true) : ∃ m, n = m + 1 ∧
    (if s.row ≥ 0 ∧ s.col < C then inR R C (s.row, s.col) && (
        if s.V.testBit (ix C (s.row, s.col)) then runE R C m 5 s L
        else tkE R C (utahS R C s.row s.col) L s (fun s L => runE R C m 5 s L))
      else runE R C m 5 s L) = true := by
  cases n with
  | zero => cases h
  | succ m =>
    refine ⟨m, rfl, ?_⟩
    unfold runE at h
    exact (Bool.and_eq_true _ _ ▸ h).2
theorem runE_4 {R C : Int} {n : Nat} {s : ES} {L : List Shp} (h : runE R C n 4 s L = true) : ∃ m, n = m + 1 ∧
    (if s.row - 2 < 0 ∨ s.col + 2 ≥ C then runE R C m 2 { s with row := s.row - 1, col := s.col + 5 } L
      else runE R C m 1 { s with row := s.row - 2, col := s.col + 2 } L) = true := by
  cases n with
  | zero => cases h
  | succ m =>
    refine ⟨m, rfl, ?_⟩
    unfold runE at h
    exact (Bool.and_eq_true _ _ ▸ h).2
theorem runE_5 {R C : Int} {n : Nat} {s : ES} {L : List Shp} (h : runE R C n 5 s L = true) : ∃ m, n = m + 1 ∧
    (if s.row + 2 ≥ R ∨ s.col - 2 < 0 then runE R C m 3 { s with row := s.row + 5, col := s.col - 1 } L
      else runE R C m 2 { s with row := s.row + 2, col := s.col - 2 } L) = true := by
  cases n with
  | zero => cases h
  | succ m =>
    refine ⟨m, rfl, ?_⟩
    unfold runE at h
    exact (Bool.and_eq_true _ _ ▸ h).2
theorem runE_3 {R C : Int} {n : Nat} {s : ES} {L : List Shp} (h : runE R C n 3 s L = true) : ∃ m, n = m + 1 ∧
    (if s.row ≥ R ∧ s.col ≥ C then L.isEmpty else runE R C m 0 s L) = true := by
  cases n with
  | zero => cases h
  | succ m =>
    refine ⟨m, rfl, ?_⟩
    unfold runE at h
    exact (Bool.and_eq_true _ _ ▸ h).2
theorem okE_8_8 : okE 8 8 = true := by decide +kernel

/-- the module that a number of a bit asks for -/
def bitI (ws : Nat → Nat) (pos k : Nat) : Int := if (ws pos).testBit (7 - k) then 1 else 0
def mdv (ws : Nat → Nat) (v : Int) : Int := if v < 0 then -1 else bitI ws (v.toNat / 8) (v.toNat % 8)
theorem mdv_put (ws : Nat → Nat) (C : Int) (g : Nat → Int) (p : Pl) (pos k : Nat) (hk : k < 8) : (fun i => if i = ix C p then bitI ws pos k else mdv ws (g i)) = fun i => mdv ws (put1 C g p (8 * (pos : Int) + (k : Int)) i) := by
  funext i
  unfold put1
  by_cases h : i = ix C p
  · rw [if_pos h, if_pos h]
    unfold mdv
    rw [if_neg (by omega)]
    congr 1 <;> omega
  · rw [if_neg h, if_neg h]
theorem mdv_sgn (ws : Nat → Nat) (v : Int) : (0 ≤ mdv ws v) ↔ 0 ≤ v := by
  unfold mdv bitI
  by_cases h : v < 0
  · rw [if_pos h]; omega
  · rw [if_neg h]; split <;> omega
end Zx
namespace Go.Proofs.YtcnallabiffemaaGreatDoor
open Go.RowKit (wrap32 wrap64 intOf Hid Below)
open Zx

def pwR (cb m cc R C b : Nat) : Nat → Value := fun i => if i = 0 then .slice (some ⟨cb, 0, none⟩) m cc else if i = 1 then .int .i64 R else if i = 2 then .int .i64 C else .slice (some ⟨b, 0, none⟩) (R * C) (R * C)
/-- the encoder's placement: codewords ws (m of them, in block cb), modules f in block b -/
structure Pw (w : World) (p b R C cb m cc : Nat) (ws : Nat → Nat) (f : Nat → Int) : Prop where
  box : w.rowIs p 216 4 (pwR cb m cc R C b)
  cw : ∀ j, j < m → w.cell? ⟨cb, j, none⟩ = some (byt (ws j))
  lt : ∀ j, j < m → ws j < 256
  row : w.rowIs b 217 (R * C) (fun i => .int .i8 (f i))
  ne : p ≠ b ∧ cb ≠ b ∧ cb < w.heap.size
  sz : 2 ≤ R ∧ R ≤ 150 ∧ 2 ≤ C ∧ C ≤ 150
theorem Pw.dn {w : World} {p b R C cb m cc : Nat} {ws : Nat → Nat} {f : Nat → Int} (h : Pw w p b R C cb m cc ws f) (n : Nat) : Pw (w.drewN n) p b R C cb m cc ws f := ⟨h.box, h.cw, h.lt, h.row, h.ne, h.sz⟩
theorem Pw.congr {w : World} {p b R C cb m cc : Nat} {ws : Nat → Nat} {f g : Nat → Int} (h : Pw w p b R C cb m cc ws f) (hf : ∀ i, f i = g i) : Pw w p b R C cb m cc ws g := ⟨h.box, h.cw, h.lt, h.row.congr fun i _ => by rw [hf i], h.ne, h.sz⟩
theorem Pw.set {w : World} {p b R C cb m cc : Nat} {ws : Nat → Nat} {f : Nat → Int} (h : Pw w p b R C cb m cc ws f) (k : Nat) (v : Int) : Pw (w.setCell ⟨b, k, none⟩ (.int .i8 v)) p b R C cb m cc ws (fun i => if i = k then v else f i) ∧ But (· = b) w (w.setCell ⟨b, k, none⟩ (.int .i8 v)) := by
  have hb : But (· = b) w (w.setCell ⟨b, k, none⟩ (.int .i8 v)) := (But.refl (· = b) w).thenSet (a := ⟨b, k, none⟩) (.inl rfl) _
  refine ⟨⟨hb.row h.box h.ne.1, fun j hj => (hb.cell (p := ⟨cb, j, none⟩) h.ne.2.2 h.ne.2.1).trans (h.cw j hj), h.lt, (h.row.set k (.int .i8 v)).congr fun i _ => ?_, ⟨h.ne.1, h.ne.2.1, by rw [World.size_setCell]; exact h.ne.2.2⟩, h.sz⟩, hb⟩
  by_cases hi' : i = k
  · rw [if_pos hi', if_pos hi']
  · rw [if_neg hi', if_neg hi']
theorem Pw.but {w w' : World} {p b R C cb m cc q : Nat} {ws : Nat → Nat} {f : Nat → Int} (h : Pw w p b R C cb m cc ws f) (hb : Below w.heap.size w w') : Pw w' p b R C cb m cc ws f :=
  ⟨rowIs_below h.box hb h.box.lt, fun j hj => (hb.cell (p := ⟨cb, j, none⟩) h.ne.2.2).trans (h.cw j hj), h.lt, rowIs_below h.row hb h.row.lt, ⟨h.ne.1, h.ne.2.1, Nat.lt_of_lt_of_le h.ne.2.2 hb.size⟩, h.sz⟩
theorem at_lt {R C x y : Nat} (hx : x < C) (hy : y < R) : y * C + x < R * C := by
  have := Nat.mul_le_mul_right C (show y + 1 ≤ R from hy)
  rw [Nat.add_mul, Nat.one_mul] at this
  omega
theorem at_le {R C : Nat} (hR : R ≤ 150) (hC : C ≤ 150) : R * C ≤ 22500 := Nat.mul_le_mul hR hC

theorem hasC (w : World) (p b R C cb m cc x y : Nat) (ws : Nat → Nat) (f : Nat → Int) (h : Pw w p b R C cb m cc ws f) (hx : x < C) (hy : y < R) : Calls Tryz.prog 147 #[pt p, .int .i64 x, .int .i64 y] w fun e w' => e = .returned (.bool (decide (0 ≤ f (y * C + x)))) ∧ ∃ n, w' = w.drewN n := by
  have c2 : w.cell? ⟨p, 2, none⟩ = some (.int .i64 C) := h.box.cell (i := 2) (by omega)
  have c3 : w.cell? ⟨p, 3, none⟩ = some (.slice (some ⟨b, 0, none⟩) (R * C) (R * C)) := h.box.cell (i := 3) (by omega)
  have hl := at_lt hx hy
  have hz := at_le h.sz.2.1 h.sz.2.2.2
  have cv := h.row.cell (i := y * C + x) hl
  have hyc : y * C ≤ R * C := Nat.mul_le_mul_right C (by omega)
  obtain ⟨A, hA⟩ : ∃ A, y * C = A := ⟨_, rfl⟩
  have hm : IntKind.i64.wrap ((y : Int) * (C : Int)) = (A : Int) := by rw [← Int.natCast_mul, hA]; exact wraps_i64 _ (by omega) (by omega)
  rw [hA] at hl cv ⊢
  generalize R * C = Z at *
  generalize f (A + x) = v at cv ⊢
  have ha : IntKind.i64.wrap ((A : Int) + (x : Int)) = ((A + x : Nat) : Int) := by rw [IntKind.wrap_i64]; omega
  obtain ⟨J, hJ⟩ : ∃ J, A + x = J := ⟨_, rfl⟩
  rw [hJ] at ha cv hl
  have HA := Lib.hid hA; have HJ := Lib.hid hJ
  clear hA hJ h
  go_enter Tryz.func147, Tryz.ntmps147
  go_wp2_with fail
  go_quiet (fail)
  go_wp2
  go_ret
  exact ⟨rfl, _, rfl⟩
theorem getBitC (w : World) (p b R C cb m cc x y : Nat) (ws : Nat → Nat) (f : Nat → Int) (h : Pw w p b R C cb m cc ws f) (hx : x < C) (hy : y < R) : Calls Tryz.prog 154 #[pt p, .int .i64 x, .int .i64 y] w fun e w' => e = .returned (.bool (f (y * C + x) == 1)) ∧ ∃ n, w' = w.drewN n := by
  have c2 : w.cell? ⟨p, 2, none⟩ = some (.int .i64 C) := h.box.cell (i := 2) (by omega)
  have c3 : w.cell? ⟨p, 3, none⟩ = some (.slice (some ⟨b, 0, none⟩) (R * C) (R * C)) := h.box.cell (i := 3) (by omega)
  have hl := at_lt hx hy
  have hz := at_le h.sz.2.1 h.sz.2.2.2
  have cv := h.row.cell (i := y * C + x) hl
  have hyc : y * C ≤ R * C := Nat.mul_le_mul_right C (by omega)
  obtain ⟨A, hA⟩ : ∃ A, y * C = A := ⟨_, rfl⟩
  have hm : IntKind.i64.wrap ((y : Int) * (C : Int)) = (A : Int) := by rw [← Int.natCast_mul, hA]; exact wraps_i64 _ (by omega) (by omega)
  rw [hA] at hl cv ⊢
  generalize R * C = Z at *
  generalize f (A + x) = v at cv ⊢
  have ha : IntKind.i64.wrap ((A : Int) + (x : Int)) = ((A + x : Nat) : Int) := by rw [IntKind.wrap_i64]; omega
  obtain ⟨J, hJ⟩ : ∃ J, A + x = J := ⟨_, rfl⟩
  rw [hJ] at ha cv hl
  have HA := Lib.hid hA; have HJ := Lib.hid hJ
  clear hA hJ h
  go_enter Tryz.func154, Tryz.ntmps154
  go_wp2_with fail
  go_quiet (fail)
  go_wp2
  go_ret
  exact ⟨rfl, _, rfl⟩
def SbTo (w : World) (p b R C cb m cc : Nat) (ws : Nat → Nat) (f : Nat → Int) (e : Ending) (w' : World) : Prop := e = .returned (.tuple #[]) ∧ Pw w' p b R C cb m cc ws f ∧ But (· = b) w w' ∧ w'.heap.size = w.heap.size
theorem setC (w : World) (p b R C cb m cc x y : Nat) (ws : Nat → Nat) (f : Nat → Int) (h : Pw w p b R C cb m cc ws f) (hx : x < C) (hy : y < R) (bit : Bool) : Calls Tryz.prog 149 #[pt p, .int .i64 x, .int .i64 y, .bool bit] w (SbTo w p b R C cb m cc ws (fun i => if i = y * C + x then (if bit then 1 else 0) else f i)) := by
  have c2 : w.cell? ⟨p, 2, none⟩ = some (.int .i64 C) := h.box.cell (i := 2) (by omega)
  have c3 : w.cell? ⟨p, 3, none⟩ = some (.slice (some ⟨b, 0, none⟩) (R * C) (R * C)) := h.box.cell (i := 3) (by omega)
  have hl := at_lt hx hy
  have hz := at_le h.sz.2.1 h.sz.2.2.2
  have cv := h.row.cell (i := y * C + x) hl
  have fz := h.row.frozen (y * C + x)
  have hyc : y * C ≤ R * C := Nat.mul_le_mul_right C (by omega)
  have hset := fun n v => (h.dn n).set (y * C + x) v
  have HS := Lib.hid hset; clear hset
  obtain ⟨A, hA⟩ : ∃ A, y * C = A := ⟨_, rfl⟩
  have hm : IntKind.i64.wrap ((y : Int) * (C : Int)) = (A : Int) := by rw [← Int.natCast_mul, hA]; exact wraps_i64 _ (by omega) (by omega)
  rw [hA] at hl cv fz HS ⊢
  have ha : IntKind.i64.wrap ((A : Int) + (x : Int)) = ((A + x : Nat) : Int) := by rw [IntKind.wrap_i64]; omega
  obtain ⟨J, hJ⟩ : ∃ J, A + x = J := ⟨_, rfl⟩
  rw [hJ] at ha cv hl fz HS ⊢
  have hJz : J ≤ 22500 := by omega
  have HA := Lib.hid hA; have HJ := Lib.hid hJ
  clear hA hJ h hyc
  obtain ⟨Z, hZ⟩ : ∃ Z, R * C = Z := ⟨_, rfl⟩
  rw [hZ] at c3 hl
  have HZ := Lib.hid hZ; clear hZ hz
  have hfin : ∀ n v, SbTo w p b R C cb m cc ws (fun i => if i = J then v else f i) (.returned (.tuple #[])) ((w.drewN n).setCell ⟨b, J, none⟩ (.int .i8 v)) := fun n v => ⟨rfl, (HS.out n v).1, ((But.refl (· = b) w).thenDn n).thenSet (a := ⟨b, J, none⟩) (.inl rfl) _, World.size_setCell _ _ _⟩
  have FIN := Lib.hid hfin; clear hfin
  go_enter Tryz.func149, Tryz.ntmps149
  cases bit with
  | true =>
    go_wp2_with fail
    refine wp_region_quiet_tail 14 (by kernel_rfl) (by kernel_rfl) ?_
    simp only [List.take_succ_cons, List.take_zero, List.drop_succ_cons, List.drop_zero]
    repeat (first | go_big_quiet_step (fail) | quiet_step (fail))
    refine wpQuiet_nil ?_
    intro _ hw1q
    obtain ⟨nq, hw2q⟩ := hw1q
    subst hw2q
    go_wp2
    refine bodyPost_end (results_none rfl _ _ _) rfl ?_
    exact FIN.out _ 1
  | false =>
    go_wp2_with fail
    refine wp_region_quiet_tail 14 (by kernel_rfl) (by kernel_rfl) ?_
    simp only [List.take_succ_cons, List.take_zero, List.drop_succ_cons, List.drop_zero]
    repeat (first | go_big_quiet_step (fail) | quiet_step (fail))
    refine wpQuiet_nil ?_
    intro _ hw1q
    obtain ⟨nq, hw2q⟩ := hw1q
    subst hw2q
    go_wp2
    refine bodyPost_end (results_none rfl _ _ _) rfl ?_
    exact FIN.out _ 0
end Go.Proofs.YtcnallabiffemaaGreatDoor
namespace Go.Proofs.YtcnallabiffemaaGreatDoor
open Go.RowKit (wrap32 wrap64 intOf Hid Below)
open Zx

theorem bit_n : ∀ v : Nat, v < 256 → ∀ k : Nat, k < 8 → ((v &&& 2 ^ (7 - k)) != 0) = v.testBit (7 - k) := by decide +kernel
theorem bit_u8 (v : Nat) (hv : v < 256) (k : Nat) (hk : k < 8) : (bits .and .u8 (v : Int) ((2 ^ (7 - k) : Nat) : Int) != 0) = v.testBit (7 - k) := by
  have hp : 2 ^ (7 - k) < 256 := by
    have : 2 ^ (7 - k) ≤ 2 ^ 7 := Nat.pow_le_pow_right (by decide) (by omega)
    omega
  rw [and_u8 v _ hv hp, ← bit_n v hv k hk]
  by_cases h : v &&& 2 ^ (7 - k) = 0
  · rw [h]; rfl
  · rw [int_nt (a := ((v &&& 2 ^ (7 - k) : Nat) : Int)) (b := 0) (by omega)]
    simp [h]
theorem adj_fst (R C row col : Int) : adj R C (row, col) = (if (if row < 0 then (row + R, col + (4 - (R + 4) % 8)) else (row, col)).2 < 0 then ((if row < 0 then (row + R, col + (4 - (R + 4) % 8)) else (row, col)).1 + (4 - (C + 4) % 8), (if row < 0 then (row + R, col + (4 - (R + 4) % 8)) else (row, col)).2 + C) else (if row < 0 then (row + R, col + (4 - (R + 4) % 8)) else (row, col))) := rfl
theorem shl8 (k : Nat) (hk : k < 8) (bit : Int) (h : bit = (k : Int) + 1) : (2 : Int) ^ min (IntKind.u64.wrap (wrap64 (8 - bit))).toNat 8 % 256 = ((2 ^ (7 - k) : Nat) : Int) := by
  have h1 : (IntKind.u64.wrap (wrap64 (8 - bit))).toNat = 7 - k := by
    rw [IntWalk.wrap64_in _ (by omega), IntKind.wrap_u64]
    omega
  rw [h1, Nat.min_eq_left (by omega)]
  clear h h1
  rcases (show k = 0 ∨ k = 1 ∨ k = 2 ∨ k = 3 ∨ k = 4 ∨ k = 5 ∨ k = 6 ∨ k = 7 by omega) with rfl | rfl | rfl | rfl | rfl | rfl | rfl | rfl <;> decide
theorem rem8 (R : Nat) : IntKind.i64.wrap (Int.tmod ((R : Int) + 4) 8) = ((R : Int) + 4) % 8 := by
  rw [Int.tmod_eq_emod_of_nonneg (by omega)]
  exact wraps_i64 _ (by omega) (by omega)

def MdTo (w : World) (p b R C cb m cc : Nat) (ws : Nat → Nat) (g : Nat → Int) (e : Ending) (w' : World) : Prop := SbTo w p b R C cb m cc ws (fun i => mdv ws (g i)) e w'
set_option maxRecDepth 100000 in
set_option maxHeartbeats 4000000 in
/-- one module of a codeword -/
theorem moduleC (w : World) (p b R C cb m cc : Nat) (ws : Nat → Nat) (g : Nat → Int) (row col : Int) (pos k : Nat) (h : Pw w p b R C cb m cc ws (fun i => mdv ws (g i))) (hr : -300 ≤ row ∧ row ≤ 300) (hc : -300 ≤ col ∧ col ≤ 300) (hin : inR R C (adj R C (row, col)) = true) (hp : pos < m) (hk : k < 8) (hm : m ≤ 5000) (bit : Int) (hbit : bit = (k : Int) + 1) :
    Calls Tryz.prog 201 #[pt p, .int .i64 row, .int .i64 col, .int .i64 pos, .int .i64 bit] w (MdTo w p b R C cb m cc ws (put1 C g (adj R C (row, col)) (8 * (pos : Int) + (k : Int)))) := by
  have c0 : w.cell? ⟨p, 0, none⟩ = some (.slice (some ⟨cb, 0, none⟩) m cc) := h.box.cell (i := 0) (by omega)
  have c1 : w.cell? ⟨p, 1, none⟩ = some (.int .i64 R) := h.box.cell (i := 1) (by omega)
  have c2 : w.cell? ⟨p, 2, none⟩ = some (.int .i64 C) := h.box.cell (i := 2) (by omega)
  have cw := h.cw pos hp
  have lw := h.lt pos hp
  have hsz := h.sz
  obtain ⟨pr, hpr⟩ : ∃ pr, adj R C (row, col) = pr := ⟨_, rfl⟩
  rw [hpr] at hin ⊢
  obtain ⟨⟨h1, h2⟩, h3, h4⟩ : (0 ≤ pr.1 ∧ pr.1 < R) ∧ 0 ≤ pr.2 ∧ pr.2 < C := by
    have := of_decide_eq_true hin
    exact ⟨⟨this.1, this.2.1⟩, this.2.2⟩
  obtain ⟨y, hy⟩ : ∃ y : Nat, pr.1 = y := ⟨pr.1.toNat, by omega⟩
  obtain ⟨x, hx⟩ : ∃ x : Nat, pr.2 = x := ⟨pr.2.toNat, by omega⟩
  have hyR : y < R := by omega
  have hxC : x < C := by omega
  have hix : ix C pr = y * C + x := by unfold ix; rw [hy, hx, ← Int.natCast_mul]; omega
  have hst : ∀ bit : Bool, (ws pos).testBit (7 - k) = bit → Calls Tryz.prog 149 #[pt p, .int .i64 x, .int .i64 y, .bool bit] w (MdTo w p b R C cb m cc ws (put1 C g pr (8 * (pos : Int) + (k : Int)))) := fun bit hb => by
    refine (setC w p b R C cb m cc x y ws _ h hxC hyR bit).mono fun e w' hh => ?_
    obtain ⟨he, hpw, hbt, hz⟩ := hh
    refine ⟨he, hpw.congr fun i => ?_, hbt, hz⟩
    rw [← congrFun (mdv_put ws C g pr pos k hk) i, hix]
    unfold bitI
    rw [hb]
  have HST := Lib.hid hst; clear hst h hin hix h1 h2 h3 h4
  have bu := bit_u8 (ws pos) lw k hk
  generalize hwv : ws pos = wv at cw bu HST lw
  clear hwv
  have HPR := Lib.hid hpr; clear hpr
  have HY := Lib.hid hy; have HX := Lib.hid hx
  clear hy hx
  have HB := Lib.hid hbit; clear hbit
  go_enter Tryz.func201, Tryz.ntmps201
  have e1 : adj R C (row, col) = pr := HPR.out
  have E1 := Lib.hid e1; clear e1
  obtain ⟨a8, ha8⟩ : ∃ a8, ((R : Int) + 4) % 8 = a8 := ⟨_, rfl⟩
  obtain ⟨b8, hb8⟩ : ∃ b8, ((C : Int) + 4) % 8 = b8 := ⟨_, rfl⟩
  have qa : ((R : Int) + 4).tmod 8 = a8 := by rw [Int.tmod_eq_emod_of_nonneg (by omega)]; exact ha8
  have qb : ((C : Int) + 4).tmod 8 = b8 := by rw [Int.tmod_eq_emod_of_nonneg (by omega)]; exact hb8
  have ra : 0 ≤ a8 ∧ a8 < 8 := by omega
  have rb : 0 ≤ b8 ∧ b8 < 8 := by omega
  have E2 : Hid ((if (if row < 0 then (row + R, col + (4 - a8)) else (row, col)).2 < 0 then ((if row < 0 then (row + R, col + (4 - a8)) else (row, col)).1 + (4 - b8), (if row < 0 then (row + R, col + (4 - a8)) else (row, col)).2 + C) else (if row < 0 then (row + R, col + (4 - a8)) else (row, col))) = pr) := Lib.hid (by
    rw [← ha8, ← hb8]; exact E1.out)
  clear ha8 hb8
  by_cases h1 : row < 0
  · by_cases h2 : col + (4 - a8) < 0
    · have e2 : (row + R) + (4 - b8) = y ∧ (col + (4 - a8)) + C = x := by
        have := E2.out
        rw [if_pos h1] at this
        simp only [] at this
        rw [if_pos h2] at this
        rw [← HY.out, ← HX.out, ← this]
        exact ⟨rfl, rfl⟩
      have E3 := Lib.hid e2; clear e2
      go_wp2_with fail
      rw [E3.out.1, E3.out.2, shl8 k hk bit HB.out, bu]
      refine (HST.out _ rfl).mono ?_
      rintro e w' hh
      obtain ⟨rfl, hh2⟩ := hh
      go_wp2
      refine bodyPost_end (results_none rfl _ _ _) rfl ?_
      exact ⟨rfl, hh2⟩
    · have e2 : row + R = y ∧ col + (4 - a8) = x := by
        have := E2.out
        rw [if_pos h1] at this
        simp only [] at this
        rw [if_neg h2] at this
        rw [← HY.out, ← HX.out, ← this]
        exact ⟨rfl, rfl⟩
      have E3 := Lib.hid e2; clear e2
      go_wp2_with fail
      rw [E3.out.1, E3.out.2, shl8 k hk bit HB.out, bu]
      refine (HST.out _ rfl).mono ?_
      rintro e w' hh
      obtain ⟨rfl, hh2⟩ := hh
      go_wp2
      refine bodyPost_end (results_none rfl _ _ _) rfl ?_
      exact ⟨rfl, hh2⟩
  · by_cases h2 : col < 0
    · have e2 : row + (4 - b8) = y ∧ col + C = x := by
        have := E2.out
        rw [if_neg h1] at this
        simp only [] at this
        rw [if_pos h2] at this
        rw [← HY.out, ← HX.out, ← this]
        exact ⟨rfl, rfl⟩
      have E3 := Lib.hid e2; clear e2
      go_wp2_with fail
      rw [E3.out.1, E3.out.2, shl8 k hk bit HB.out, bu]
      refine (HST.out _ rfl).mono ?_
      rintro e w' hh
      obtain ⟨rfl, hh2⟩ := hh
      go_wp2
      refine bodyPost_end (results_none rfl _ _ _) rfl ?_
      exact ⟨rfl, hh2⟩
    · have e2 : row = y ∧ col = x := by
        have := E1.out
        unfold adj at this
        rw [if_neg h1] at this
        simp only [] at this
        rw [if_neg h2] at this
        rw [← HY.out, ← HX.out, ← this]
        exact ⟨rfl, rfl⟩
      obtain ⟨rfl, rfl⟩ := e2
      go_wp2_with fail
      rw [shl8 k hk bit HB.out, bu]
      refine (HST.out _ rfl).mono ?_
      rintro e w' hh
      obtain ⟨rfl, hh2⟩ := hh
      go_wp2
      refine bodyPost_end (results_none rfl _ _ _) rfl ?_
      exact ⟨rfl, hh2⟩
theorem putB8 (C : Int) (g : Nat → Int) (p0 p1 p2 p3 p4 p5 p6 p7 : Pl) (v : Int) : putB C g [p0, p1, p2, p3, p4, p5, p6, p7] v =
    put1 C (put1 C (put1 C (put1 C (put1 C (put1 C (put1 C (put1 C g p0 (v + (0 : Nat))) p1 (v + (1 : Nat))) p2 (v + (2 : Nat))) p3 (v + (3 : Nat))) p4 (v + (4 : Nat))) p5 (v + (5 : Nat))) p6 (v + (6 : Nat))) p7 (v + (7 : Nat)) := by
  simp only [putB]
  rw [show v + (0 : Nat) = v by omega, show v + (1 : Nat) = v + 1 by omega, show v + (2 : Nat) = v + 1 + 1 by omega, show v + (3 : Nat) = v + 1 + 1 + 1 by omega, show v + (4 : Nat) = v + 1 + 1 + 1 + 1 by omega, show v + (5 : Nat) = v + 1 + 1 + 1 + 1 + 1 by omega, show v + (6 : Nat) = v + 1 + 1 + 1 + 1 + 1 + 1 by omega, show v + (7 : Nat) = v + 1 + 1 + 1 + 1 + 1 + 1 + 1 by omega]
theorem adj_id {R C : Int} {p : Pl} (h1 : 0 ≤ p.1) (h2 : 0 ≤ p.2) : adj R C p = p := by
  unfold adj
  rw [if_neg (by omega : ¬ p.1 < 0)]
  simp only []
  rw [if_neg (by omega)]
end Go.Proofs.YtcnallabiffemaaGreatDoor
namespace Go.Proofs.YtcnallabiffemaaGreatDoor
open Go.RowKit (wrap32 wrap64 intOf Hid Below)
open Zx

theorem moduleD (w : World) (p b R C cb m cc : Nat) (ws : Nat → Nat) (g : Nat → Int) (row col : Int) (pos k : Nat) (h : Pw w p b R C cb m cc ws (fun i => mdv ws (g i))) (hr : -300 ≤ row ∧ row ≤ 300) (hc : -300 ≤ col ∧ col ≤ 300) (hin : inR R C (row, col) = true) (hp : pos < m) (hk : k < 8) (hm : m ≤ 5000) (bit : Int) (hbit : bit = (k : Int) + 1) :
    Calls Tryz.prog 201 #[pt p, .int .i64 row, .int .i64 col, .int .i64 pos, .int .i64 bit] w (MdTo w p b R C cb m cc ws (put1 C g (row, col) (8 * (pos : Int) + (k : Int)))) := by
  have h0 : 0 ≤ row ∧ row < R ∧ 0 ≤ col ∧ col < C := of_decide_eq_true hin
  have ha : adj R C (row, col) = (row, col) := adj_id h0.1 h0.2.2.1
  have := moduleC w p b R C cb m cc ws g row col pos k h hr hc (by rw [ha]; exact hin) hp hk hm bit hbit
  rwa [ha] at this

set_option maxRecDepth 100000 in
set_option maxHeartbeats 4000000 in
theorem utahE (w : World) (p b R C cb m cc : Nat) (ws : Nat → Nat) (g : Nat → Int) (row col : Int) (pos : Nat) (h : Pw w p b R C cb m cc ws (fun i => mdv ws (g i))) (hr : -250 ≤ row ∧ row ≤ 250) (hc : -250 ≤ col ∧ col ≤ 250) (hin : ∀ pl ∈ utahS R C row col, inR R C pl = true) (hp : pos < m) (hm : m ≤ 5000) :
    Calls Tryz.prog 148 #[pt p, .int .i64 row, .int .i64 col, .int .i64 pos] w (MdTo w p b R C cb m cc ws (putB C g (utahS R C row col) (8 * (pos : Int)))) := by
  have i0 := Lib.hid (hin (adj R C (row - 2, col - 2)) (by unfold utahS; simp))
  have i1 := Lib.hid (hin (adj R C (row - 2, col - 1)) (by unfold utahS; simp))
  have i2 := Lib.hid (hin (adj R C (row - 1, col - 2)) (by unfold utahS; simp))
  have i3 := Lib.hid (hin (adj R C (row - 1, col - 1)) (by unfold utahS; simp))
  have i4 := Lib.hid (hin (adj R C (row - 1, col)) (by unfold utahS; simp))
  have i5 := Lib.hid (hin (adj R C (row, col - 2)) (by unfold utahS; simp))
  have i6 := Lib.hid (hin (adj R C (row, col - 1)) (by unfold utahS; simp))
  have i7 := Lib.hid (hin (adj R C (row, col)) (by unfold utahS; simp))
  unfold utahS
  rw [putB8]
  clear hin
  have P0 := Lib.hid h; clear h
  have B0 := Lib.hid (But.refl (· = b) w)
  go_enter Tryz.func148, Tryz.ntmps148
  go_wp2_with fail
  refine (moduleC _ p b R C cb m cc ws _ (row - 2) (col - 2) pos 0 P0.out (by omega) (by omega) i0.out hp (by omega) hm 1 rfl).mono ?_
  rintro e0 w1 ⟨rfl, hP, hB, hZ⟩
  have P1 := Lib.hid hP; clear hP
  have B1 := Lib.hid (B0.out.trans hB); clear hB
  clear P0 B0 i0
  go_wp2_with fail
  refine (moduleC _ p b R C cb m cc ws _ (row - 2) (col - 1) pos 1 P1.out (by omega) (by omega) i1.out hp (by omega) hm 2 rfl).mono ?_
  rintro e1 w2 ⟨rfl, hP, hB, hZ⟩
  have P2 := Lib.hid hP; clear hP
  have B2 := Lib.hid (B1.out.trans hB); clear hB
  clear P1 B1 i1
  go_wp2_with fail
  refine (moduleC _ p b R C cb m cc ws _ (row - 1) (col - 2) pos 2 P2.out (by omega) (by omega) i2.out hp (by omega) hm 3 rfl).mono ?_
  rintro e2 w3 ⟨rfl, hP, hB, hZ⟩
  have P3 := Lib.hid hP; clear hP
  have B3 := Lib.hid (B2.out.trans hB); clear hB
  clear P2 B2 i2
  go_wp2_with fail
  refine (moduleC _ p b R C cb m cc ws _ (row - 1) (col - 1) pos 3 P3.out (by omega) (by omega) i3.out hp (by omega) hm 4 rfl).mono ?_
  rintro e3 w4 ⟨rfl, hP, hB, hZ⟩
  have P4 := Lib.hid hP; clear hP
  have B4 := Lib.hid (B3.out.trans hB); clear hB
  clear P3 B3 i3
  go_wp2_with fail
  refine (moduleC _ p b R C cb m cc ws _ (row - 1) col pos 4 P4.out (by omega) (by omega) i4.out hp (by omega) hm 5 rfl).mono ?_
  rintro e4 w5 ⟨rfl, hP, hB, hZ⟩
  have P5 := Lib.hid hP; clear hP
  have B5 := Lib.hid (B4.out.trans hB); clear hB
  clear P4 B4 i4
  go_wp2_with fail
  refine (moduleC _ p b R C cb m cc ws _ row (col - 2) pos 5 P5.out (by omega) (by omega) i5.out hp (by omega) hm 6 rfl).mono ?_
  rintro e5 w6 ⟨rfl, hP, hB, hZ⟩
  have P6 := Lib.hid hP; clear hP
  have B6 := Lib.hid (B5.out.trans hB); clear hB
  clear P5 B5 i5
  go_wp2_with fail
  refine (moduleC _ p b R C cb m cc ws _ row (col - 1) pos 6 P6.out (by omega) (by omega) i6.out hp (by omega) hm 7 rfl).mono ?_
  rintro e6 w7 ⟨rfl, hP, hB, hZ⟩
  have P7 := Lib.hid hP; clear hP
  have B7 := Lib.hid (B6.out.trans hB); clear hB
  clear P6 B6 i6
  go_wp2_with fail
  refine (moduleC _ p b R C cb m cc ws _ row col pos 7 P7.out (by omega) (by omega) i7.out hp (by omega) hm 8 rfl).mono ?_
  rintro e7 w8 ⟨rfl, hP, hB, hZ⟩
  have P8 := Lib.hid hP; clear hP
  have B8 := Lib.hid (B7.out.trans hB); clear hB
  clear P7 B7 i7
  go_wp2
  refine bodyPost_end (results_none rfl _ _ _) rfl ?_
  exact ⟨rfl, P8.out, B8.out, by simp only [*]⟩
set_option maxRecDepth 100000 in
set_option maxHeartbeats 4000000 in
theorem corn1E (w : World) (p b R C cb m cc : Nat) (ws : Nat → Nat) (g : Nat → Int) (pos : Nat) (h : Pw w p b R C cb m cc ws (fun i => mdv ws (g i))) (hin : ∀ pl ∈ corn1 R C, inR R C pl = true) (hp : pos < m) (hm : m ≤ 5000) :
    Calls Tryz.prog 143 #[pt p, .int .i64 pos] w (MdTo w p b R C cb m cc ws (putB C g (corn1 R C) (8 * (pos : Int)))) := by
  have hsz := h.sz
  have i0 := Lib.hid (hin ((R : Int) - 1, 0) (by unfold corn1; simp))
  have i1 := Lib.hid (hin ((R : Int) - 1, 1) (by unfold corn1; simp))
  have i2 := Lib.hid (hin ((R : Int) - 1, 2) (by unfold corn1; simp))
  have i3 := Lib.hid (hin (0, (C : Int) - 2) (by unfold corn1; simp))
  have i4 := Lib.hid (hin (0, (C : Int) - 1) (by unfold corn1; simp))
  have i5 := Lib.hid (hin (1, (C : Int) - 1) (by unfold corn1; simp))
  have i6 := Lib.hid (hin (2, (C : Int) - 1) (by unfold corn1; simp))
  have i7 := Lib.hid (hin (3, (C : Int) - 1) (by unfold corn1; simp))
  unfold corn1
  rw [putB8]
  clear hin
  have P0 := Lib.hid h; clear h
  have B0 := Lib.hid (But.refl (· = b) w)
  have z0 : w.heap.size = w.heap.size := rfl
  go_enter Tryz.func143, Tryz.ntmps143
  have c1 : w.cell? ⟨p, 1, none⟩ = some (.int .i64 R) := P0.out.box.cell (i := 1) (by omega)
  have c2 : w.cell? ⟨p, 2, none⟩ = some (.int .i64 C) := P0.out.box.cell (i := 2) (by omega)
  go_wp2_with fail
  refine (moduleD _ p b R C cb m cc ws _ ((R : Int) - 1) (0) pos 0 P0.out (by omega) (by omega) i0.out hp (by omega) hm 1 rfl).mono ?_
  rintro e0 w1 ⟨rfl, hP, hB, hZ⟩
  have P1 := Lib.hid hP; clear hP
  have B1 := Lib.hid (B0.out.trans hB); clear hB
  clear P0 B0 i0 c1 c2
  have c1 : w1.cell? ⟨p, 1, none⟩ = some (.int .i64 R) := P1.out.box.cell (i := 1) (by omega)
  have c2 : w1.cell? ⟨p, 2, none⟩ = some (.int .i64 C) := P1.out.box.cell (i := 2) (by omega)
  go_wp2_with fail
  refine (moduleD _ p b R C cb m cc ws _ ((R : Int) - 1) (1) pos 1 P1.out (by omega) (by omega) i1.out hp (by omega) hm 2 rfl).mono ?_
  rintro e1 w2 ⟨rfl, hP, hB, hZ⟩
  have P2 := Lib.hid hP; clear hP
  have B2 := Lib.hid (B1.out.trans hB); clear hB
  clear P1 B1 i1 c1 c2
  have c1 : w2.cell? ⟨p, 1, none⟩ = some (.int .i64 R) := P2.out.box.cell (i := 1) (by omega)
  have c2 : w2.cell? ⟨p, 2, none⟩ = some (.int .i64 C) := P2.out.box.cell (i := 2) (by omega)
  go_wp2_with fail
  refine (moduleD _ p b R C cb m cc ws _ ((R : Int) - 1) (2) pos 2 P2.out (by omega) (by omega) i2.out hp (by omega) hm 3 rfl).mono ?_
  rintro e2 w3 ⟨rfl, hP, hB, hZ⟩
  have P3 := Lib.hid hP; clear hP
  have B3 := Lib.hid (B2.out.trans hB); clear hB
  clear P2 B2 i2 c1 c2
  have c1 : w3.cell? ⟨p, 1, none⟩ = some (.int .i64 R) := P3.out.box.cell (i := 1) (by omega)
  have c2 : w3.cell? ⟨p, 2, none⟩ = some (.int .i64 C) := P3.out.box.cell (i := 2) (by omega)
  go_wp2_with fail
  refine (moduleD _ p b R C cb m cc ws _ (0) ((C : Int) - 2) pos 3 P3.out (by omega) (by omega) i3.out hp (by omega) hm 4 rfl).mono ?_
  rintro e3 w4 ⟨rfl, hP, hB, hZ⟩
  have P4 := Lib.hid hP; clear hP
  have B4 := Lib.hid (B3.out.trans hB); clear hB
  clear P3 B3 i3 c1 c2
  have c1 : w4.cell? ⟨p, 1, none⟩ = some (.int .i64 R) := P4.out.box.cell (i := 1) (by omega)
  have c2 : w4.cell? ⟨p, 2, none⟩ = some (.int .i64 C) := P4.out.box.cell (i := 2) (by omega)
  go_wp2_with fail
  refine (moduleD _ p b R C cb m cc ws _ (0) ((C : Int) - 1) pos 4 P4.out (by omega) (by omega) i4.out hp (by omega) hm 5 rfl).mono ?_
  rintro e4 w5 ⟨rfl, hP, hB, hZ⟩
  have P5 := Lib.hid hP; clear hP
  have B5 := Lib.hid (B4.out.trans hB); clear hB
  clear P4 B4 i4 c1 c2
  have c1 : w5.cell? ⟨p, 1, none⟩ = some (.int .i64 R) := P5.out.box.cell (i := 1) (by omega)
  have c2 : w5.cell? ⟨p, 2, none⟩ = some (.int .i64 C) := P5.out.box.cell (i := 2) (by omega)
  go_wp2_with fail
  refine (moduleD _ p b R C cb m cc ws _ (1) ((C : Int) - 1) pos 5 P5.out (by omega) (by omega) i5.out hp (by omega) hm 6 rfl).mono ?_
  rintro e5 w6 ⟨rfl, hP, hB, hZ⟩
  have P6 := Lib.hid hP; clear hP
  have B6 := Lib.hid (B5.out.trans hB); clear hB
  clear P5 B5 i5 c1 c2
  have c1 : w6.cell? ⟨p, 1, none⟩ = some (.int .i64 R) := P6.out.box.cell (i := 1) (by omega)
  have c2 : w6.cell? ⟨p, 2, none⟩ = some (.int .i64 C) := P6.out.box.cell (i := 2) (by omega)
  go_wp2_with fail
  refine (moduleD _ p b R C cb m cc ws _ (2) ((C : Int) - 1) pos 6 P6.out (by omega) (by omega) i6.out hp (by omega) hm 7 rfl).mono ?_
  rintro e6 w7 ⟨rfl, hP, hB, hZ⟩
  have P7 := Lib.hid hP; clear hP
  have B7 := Lib.hid (B6.out.trans hB); clear hB
  clear P6 B6 i6 c1 c2
  have c1 : w7.cell? ⟨p, 1, none⟩ = some (.int .i64 R) := P7.out.box.cell (i := 1) (by omega)
  have c2 : w7.cell? ⟨p, 2, none⟩ = some (.int .i64 C) := P7.out.box.cell (i := 2) (by omega)
  go_wp2_with fail
  refine (moduleD _ p b R C cb m cc ws _ (3) ((C : Int) - 1) pos 7 P7.out (by omega) (by omega) i7.out hp (by omega) hm 8 rfl).mono ?_
  rintro e7 w8 ⟨rfl, hP, hB, hZ⟩
  have P8 := Lib.hid hP; clear hP
  have B8 := Lib.hid (B7.out.trans hB); clear hB
  clear P7 B7 i7 c1 c2
  go_wp2
  refine bodyPost_end (results_none rfl _ _ _) rfl ?_
  exact ⟨rfl, P8.out, B8.out, by simp only [*]⟩
set_option maxRecDepth 100000 in
set_option maxHeartbeats 4000000 in
theorem corn2E (w : World) (p b R C cb m cc : Nat) (ws : Nat → Nat) (g : Nat → Int) (pos : Nat) (h : Pw w p b R C cb m cc ws (fun i => mdv ws (g i))) (hin : ∀ pl ∈ corn2 R C, inR R C pl = true) (hp : pos < m) (hm : m ≤ 5000) :
    Calls Tryz.prog 144 #[pt p, .int .i64 pos] w (MdTo w p b R C cb m cc ws (putB C g (corn2 R C) (8 * (pos : Int)))) := by
  have hsz := h.sz
  have i0 := Lib.hid (hin ((R : Int) - 3, 0) (by unfold corn2; simp))
  have i1 := Lib.hid (hin ((R : Int) - 2, 0) (by unfold corn2; simp))
  have i2 := Lib.hid (hin ((R : Int) - 1, 0) (by unfold corn2; simp))
  have i3 := Lib.hid (hin (0, (C : Int) - 4) (by unfold corn2; simp))
  have i4 := Lib.hid (hin (0, (C : Int) - 3) (by unfold corn2; simp))
  have i5 := Lib.hid (hin (0, (C : Int) - 2) (by unfold corn2; simp))
  have i6 := Lib.hid (hin (0, (C : Int) - 1) (by unfold corn2; simp))
  have i7 := Lib.hid (hin (1, (C : Int) - 1) (by unfold corn2; simp))
  unfold corn2
  rw [putB8]
  clear hin
  have P0 := Lib.hid h; clear h
  have B0 := Lib.hid (But.refl (· = b) w)
  have z0 : w.heap.size = w.heap.size := rfl
  go_enter Tryz.func144, Tryz.ntmps144
  have c1 : w.cell? ⟨p, 1, none⟩ = some (.int .i64 R) := P0.out.box.cell (i := 1) (by omega)
  have c2 : w.cell? ⟨p, 2, none⟩ = some (.int .i64 C) := P0.out.box.cell (i := 2) (by omega)
  go_wp2_with fail
  refine (moduleD _ p b R C cb m cc ws _ ((R : Int) - 3) (0) pos 0 P0.out (by omega) (by omega) i0.out hp (by omega) hm 1 rfl).mono ?_
  rintro e0 w1 ⟨rfl, hP, hB, hZ⟩
  have P1 := Lib.hid hP; clear hP
  have B1 := Lib.hid (B0.out.trans hB); clear hB
  clear P0 B0 i0 c1 c2
  have c1 : w1.cell? ⟨p, 1, none⟩ = some (.int .i64 R) := P1.out.box.cell (i := 1) (by omega)
  have c2 : w1.cell? ⟨p, 2, none⟩ = some (.int .i64 C) := P1.out.box.cell (i := 2) (by omega)
  go_wp2_with fail
  refine (moduleD _ p b R C cb m cc ws _ ((R : Int) - 2) (0) pos 1 P1.out (by omega) (by omega) i1.out hp (by omega) hm 2 rfl).mono ?_
  rintro e1 w2 ⟨rfl, hP, hB, hZ⟩
  have P2 := Lib.hid hP; clear hP
  have B2 := Lib.hid (B1.out.trans hB); clear hB
  clear P1 B1 i1 c1 c2
  have c1 : w2.cell? ⟨p, 1, none⟩ = some (.int .i64 R) := P2.out.box.cell (i := 1) (by omega)
  have c2 : w2.cell? ⟨p, 2, none⟩ = some (.int .i64 C) := P2.out.box.cell (i := 2) (by omega)
  go_wp2_with fail
  refine (moduleD _ p b R C cb m cc ws _ ((R : Int) - 1) (0) pos 2 P2.out (by omega) (by omega) i2.out hp (by omega) hm 3 rfl).mono ?_
  rintro e2 w3 ⟨rfl, hP, hB, hZ⟩
  have P3 := Lib.hid hP; clear hP
  have B3 := Lib.hid (B2.out.trans hB); clear hB
  clear P2 B2 i2 c1 c2
  have c1 : w3.cell? ⟨p, 1, none⟩ = some (.int .i64 R) := P3.out.box.cell (i := 1) (by omega)
  have c2 : w3.cell? ⟨p, 2, none⟩ = some (.int .i64 C) := P3.out.box.cell (i := 2) (by omega)
  go_wp2_with fail
  refine (moduleD _ p b R C cb m cc ws _ (0) ((C : Int) - 4) pos 3 P3.out (by omega) (by omega) i3.out hp (by omega) hm 4 rfl).mono ?_
  rintro e3 w4 ⟨rfl, hP, hB, hZ⟩
  have P4 := Lib.hid hP; clear hP
  have B4 := Lib.hid (B3.out.trans hB); clear hB
  clear P3 B3 i3 c1 c2
  have c1 : w4.cell? ⟨p, 1, none⟩ = some (.int .i64 R) := P4.out.box.cell (i := 1) (by omega)
  have c2 : w4.cell? ⟨p, 2, none⟩ = some (.int .i64 C) := P4.out.box.cell (i := 2) (by omega)
  go_wp2_with fail
  refine (moduleD _ p b R C cb m cc ws _ (0) ((C : Int) - 3) pos 4 P4.out (by omega) (by omega) i4.out hp (by omega) hm 5 rfl).mono ?_
  rintro e4 w5 ⟨rfl, hP, hB, hZ⟩
  have P5 := Lib.hid hP; clear hP
  have B5 := Lib.hid (B4.out.trans hB); clear hB
  clear P4 B4 i4 c1 c2
  have c1 : w5.cell? ⟨p, 1, none⟩ = some (.int .i64 R) := P5.out.box.cell (i := 1) (by omega)
  have c2 : w5.cell? ⟨p, 2, none⟩ = some (.int .i64 C) := P5.out.box.cell (i := 2) (by omega)
  go_wp2_with fail
  refine (moduleD _ p b R C cb m cc ws _ (0) ((C : Int) - 2) pos 5 P5.out (by omega) (by omega) i5.out hp (by omega) hm 6 rfl).mono ?_
  rintro e5 w6 ⟨rfl, hP, hB, hZ⟩
  have P6 := Lib.hid hP; clear hP
  have B6 := Lib.hid (B5.out.trans hB); clear hB
  clear P5 B5 i5 c1 c2
  have c1 : w6.cell? ⟨p, 1, none⟩ = some (.int .i64 R) := P6.out.box.cell (i := 1) (by omega)
  have c2 : w6.cell? ⟨p, 2, none⟩ = some (.int .i64 C) := P6.out.box.cell (i := 2) (by omega)
  go_wp2_with fail
  refine (moduleD _ p b R C cb m cc ws _ (0) ((C : Int) - 1) pos 6 P6.out (by omega) (by omega) i6.out hp (by omega) hm 7 rfl).mono ?_
  rintro e6 w7 ⟨rfl, hP, hB, hZ⟩
  have P7 := Lib.hid hP; clear hP
  have B7 := Lib.hid (B6.out.trans hB); clear hB
  clear P6 B6 i6 c1 c2
  have c1 : w7.cell? ⟨p, 1, none⟩ = some (.int .i64 R) := P7.out.box.cell (i := 1) (by omega)
  have c2 : w7.cell? ⟨p, 2, none⟩ = some (.int .i64 C) := P7.out.box.cell (i := 2) (by omega)
  go_wp2_with fail
  refine (moduleD _ p b R C cb m cc ws _ (1) ((C : Int) - 1) pos 7 P7.out (by omega) (by omega) i7.out hp (by omega) hm 8 rfl).mono ?_
  rintro e7 w8 ⟨rfl, hP, hB, hZ⟩
  have P8 := Lib.hid hP; clear hP
  have B8 := Lib.hid (B7.out.trans hB); clear hB
  clear P7 B7 i7 c1 c2
  go_wp2
  refine bodyPost_end (results_none rfl _ _ _) rfl ?_
  exact ⟨rfl, P8.out, B8.out, by simp only [*]⟩
set_option maxRecDepth 100000 in
set_option maxHeartbeats 4000000 in
theorem corn4E (w : World) (p b R C cb m cc : Nat) (ws : Nat → Nat) (g : Nat → Int) (pos : Nat) (h : Pw w p b R C cb m cc ws (fun i => mdv ws (g i))) (hin : ∀ pl ∈ corn4 R C, inR R C pl = true) (hp : pos < m) (hm : m ≤ 5000) :
    Calls Tryz.prog 145 #[pt p, .int .i64 pos] w (MdTo w p b R C cb m cc ws (putB C g (corn4 R C) (8 * (pos : Int)))) := by
  have hsz := h.sz
  have i0 := Lib.hid (hin ((R : Int) - 3, 0) (by unfold corn4; simp))
  have i1 := Lib.hid (hin ((R : Int) - 2, 0) (by unfold corn4; simp))
  have i2 := Lib.hid (hin ((R : Int) - 1, 0) (by unfold corn4; simp))
  have i3 := Lib.hid (hin (0, (C : Int) - 2) (by unfold corn4; simp))
  have i4 := Lib.hid (hin (0, (C : Int) - 1) (by unfold corn4; simp))
  have i5 := Lib.hid (hin (1, (C : Int) - 1) (by unfold corn4; simp))
  have i6 := Lib.hid (hin (2, (C : Int) - 1) (by unfold corn4; simp))
  have i7 := Lib.hid (hin (3, (C : Int) - 1) (by unfold corn4; simp))
  unfold corn4
  rw [putB8]
  clear hin
  have P0 := Lib.hid h; clear h
  have B0 := Lib.hid (But.refl (· = b) w)
  have z0 : w.heap.size = w.heap.size := rfl
  go_enter Tryz.func145, Tryz.ntmps145
  have c1 : w.cell? ⟨p, 1, none⟩ = some (.int .i64 R) := P0.out.box.cell (i := 1) (by omega)
  have c2 : w.cell? ⟨p, 2, none⟩ = some (.int .i64 C) := P0.out.box.cell (i := 2) (by omega)
  go_wp2_with fail
  refine (moduleD _ p b R C cb m cc ws _ ((R : Int) - 3) (0) pos 0 P0.out (by omega) (by omega) i0.out hp (by omega) hm 1 rfl).mono ?_
  rintro e0 w1 ⟨rfl, hP, hB, hZ⟩
  have P1 := Lib.hid hP; clear hP
  have B1 := Lib.hid (B0.out.trans hB); clear hB
  clear P0 B0 i0 c1 c2
  have c1 : w1.cell? ⟨p, 1, none⟩ = some (.int .i64 R) := P1.out.box.cell (i := 1) (by omega)
  have c2 : w1.cell? ⟨p, 2, none⟩ = some (.int .i64 C) := P1.out.box.cell (i := 2) (by omega)
  go_wp2_with fail
  refine (moduleD _ p b R C cb m cc ws _ ((R : Int) - 2) (0) pos 1 P1.out (by omega) (by omega) i1.out hp (by omega) hm 2 rfl).mono ?_
  rintro e1 w2 ⟨rfl, hP, hB, hZ⟩
  have P2 := Lib.hid hP; clear hP
  have B2 := Lib.hid (B1.out.trans hB); clear hB
  clear P1 B1 i1 c1 c2
  have c1 : w2.cell? ⟨p, 1, none⟩ = some (.int .i64 R) := P2.out.box.cell (i := 1) (by omega)
  have c2 : w2.cell? ⟨p, 2, none⟩ = some (.int .i64 C) := P2.out.box.cell (i := 2) (by omega)
  go_wp2_with fail
  refine (moduleD _ p b R C cb m cc ws _ ((R : Int) - 1) (0) pos 2 P2.out (by omega) (by omega) i2.out hp (by omega) hm 3 rfl).mono ?_
  rintro e2 w3 ⟨rfl, hP, hB, hZ⟩
  have P3 := Lib.hid hP; clear hP
  have B3 := Lib.hid (B2.out.trans hB); clear hB
  clear P2 B2 i2 c1 c2
  have c1 : w3.cell? ⟨p, 1, none⟩ = some (.int .i64 R) := P3.out.box.cell (i := 1) (by omega)
  have c2 : w3.cell? ⟨p, 2, none⟩ = some (.int .i64 C) := P3.out.box.cell (i := 2) (by omega)
  go_wp2_with fail
  refine (moduleD _ p b R C cb m cc ws _ (0) ((C : Int) - 2) pos 3 P3.out (by omega) (by omega) i3.out hp (by omega) hm 4 rfl).mono ?_
  rintro e3 w4 ⟨rfl, hP, hB, hZ⟩
  have P4 := Lib.hid hP; clear hP
  have B4 := Lib.hid (B3.out.trans hB); clear hB
  clear P3 B3 i3 c1 c2
  have c1 : w4.cell? ⟨p, 1, none⟩ = some (.int .i64 R) := P4.out.box.cell (i := 1) (by omega)
  have c2 : w4.cell? ⟨p, 2, none⟩ = some (.int .i64 C) := P4.out.box.cell (i := 2) (by omega)
  go_wp2_with fail
  refine (moduleD _ p b R C cb m cc ws _ (0) ((C : Int) - 1) pos 4 P4.out (by omega) (by omega) i4.out hp (by omega) hm 5 rfl).mono ?_
  rintro e4 w5 ⟨rfl, hP, hB, hZ⟩
  have P5 := Lib.hid hP; clear hP
  have B5 := Lib.hid (B4.out.trans hB); clear hB
  clear P4 B4 i4 c1 c2
  have c1 : w5.cell? ⟨p, 1, none⟩ = some (.int .i64 R) := P5.out.box.cell (i := 1) (by omega)
  have c2 : w5.cell? ⟨p, 2, none⟩ = some (.int .i64 C) := P5.out.box.cell (i := 2) (by omega)
  go_wp2_with fail
  refine (moduleD _ p b R C cb m cc ws _ (1) ((C : Int) - 1) pos 5 P5.out (by omega) (by omega) i5.out hp (by omega) hm 6 rfl).mono ?_
  rintro e5 w6 ⟨rfl, hP, hB, hZ⟩
  have P6 := Lib.hid hP; clear hP
  have B6 := Lib.hid (B5.out.trans hB); clear hB
  clear P5 B5 i5 c1 c2
  have c1 : w6.cell? ⟨p, 1, none⟩ = some (.int .i64 R) := P6.out.box.cell (i := 1) (by omega)
  have c2 : w6.cell? ⟨p, 2, none⟩ = some (.int .i64 C) := P6.out.box.cell (i := 2) (by omega)
  go_wp2_with fail
  refine (moduleD _ p b R C cb m cc ws _ (2) ((C : Int) - 1) pos 6 P6.out (by omega) (by omega) i6.out hp (by omega) hm 7 rfl).mono ?_
  rintro e6 w7 ⟨rfl, hP, hB, hZ⟩
  have P7 := Lib.hid hP; clear hP
  have B7 := Lib.hid (B6.out.trans hB); clear hB
  clear P6 B6 i6 c1 c2
  have c1 : w7.cell? ⟨p, 1, none⟩ = some (.int .i64 R) := P7.out.box.cell (i := 1) (by omega)
  have c2 : w7.cell? ⟨p, 2, none⟩ = some (.int .i64 C) := P7.out.box.cell (i := 2) (by omega)
  go_wp2_with fail
  refine (moduleD _ p b R C cb m cc ws _ (3) ((C : Int) - 1) pos 7 P7.out (by omega) (by omega) i7.out hp (by omega) hm 8 rfl).mono ?_
  rintro e7 w8 ⟨rfl, hP, hB, hZ⟩
  have P8 := Lib.hid hP; clear hP
  have B8 := Lib.hid (B7.out.trans hB); clear hB
  clear P7 B7 i7 c1 c2
  go_wp2
  refine bodyPost_end (results_none rfl _ _ _) rfl ?_
  exact ⟨rfl, P8.out, B8.out, by simp only [*]⟩
set_option maxRecDepth 100000 in
set_option maxHeartbeats 4000000 in
theorem corn3E (w : World) (p b R C cb m cc : Nat) (ws : Nat → Nat) (g : Nat → Int) (pos : Nat) (h : Pw w p b R C cb m cc ws (fun i => mdv ws (g i))) (hin : ∀ pl ∈ corn3 R C, inR R C pl = true) (hp : pos < m) (hm : m ≤ 5000) :
    Calls Tryz.prog 146 #[pt p, .int .i64 pos] w (MdTo w p b R C cb m cc ws (putB C g (corn3 R C) (8 * (pos : Int)))) := by
  have hsz := h.sz
  have i0 := Lib.hid (hin ((R : Int) - 1, 0) (by unfold corn3; simp))
  have i1 := Lib.hid (hin ((R : Int) - 1, (C : Int) - 1) (by unfold corn3; simp))
  have i2 := Lib.hid (hin (0, (C : Int) - 3) (by unfold corn3; simp))
  have i3 := Lib.hid (hin (0, (C : Int) - 2) (by unfold corn3; simp))
  have i4 := Lib.hid (hin (0, (C : Int) - 1) (by unfold corn3; simp))
  have i5 := Lib.hid (hin (1, (C : Int) - 3) (by unfold corn3; simp))
  have i6 := Lib.hid (hin (1, (C : Int) - 2) (by unfold corn3; simp))
  have i7 := Lib.hid (hin (1, (C : Int) - 1) (by unfold corn3; simp))
  unfold corn3
  rw [putB8]
  clear hin
  have P0 := Lib.hid h; clear h
  have B0 := Lib.hid (But.refl (· = b) w)
  have z0 : w.heap.size = w.heap.size := rfl
  go_enter Tryz.func146, Tryz.ntmps146
  have c1 : w.cell? ⟨p, 1, none⟩ = some (.int .i64 R) := P0.out.box.cell (i := 1) (by omega)
  have c2 : w.cell? ⟨p, 2, none⟩ = some (.int .i64 C) := P0.out.box.cell (i := 2) (by omega)
  go_wp2_with fail
  refine (moduleD _ p b R C cb m cc ws _ ((R : Int) - 1) (0) pos 0 P0.out (by omega) (by omega) i0.out hp (by omega) hm 1 rfl).mono ?_
  rintro e0 w1 ⟨rfl, hP, hB, hZ⟩
  have P1 := Lib.hid hP; clear hP
  have B1 := Lib.hid (B0.out.trans hB); clear hB
  clear P0 B0 i0 c1 c2
  have c1 : w1.cell? ⟨p, 1, none⟩ = some (.int .i64 R) := P1.out.box.cell (i := 1) (by omega)
  have c2 : w1.cell? ⟨p, 2, none⟩ = some (.int .i64 C) := P1.out.box.cell (i := 2) (by omega)
  go_wp2_with fail
  refine wp_region_quiet_tail 12 (by kernel_rfl) (by kernel_rfl) ?_
  simp only [List.take_succ_cons, List.take_zero, List.drop_succ_cons, List.drop_zero]
  repeat (first | go_big_quiet_step (fail) | quiet_step (fail))
  refine wpQuiet_nil ?_
  intro _ hw1q
  obtain ⟨nq, hw2q⟩ := hw1q
  subst hw2q
  go_wp2_with fail
  refine (moduleD _ p b R C cb m cc ws _ ((R : Int) - 1) ((C : Int) - 1) pos 1 (P1.out.dn nq) (by omega) (by omega) i1.out hp (by omega) hm 2 rfl).mono ?_
  rintro e1 w2 ⟨rfl, hP, hB, hZ⟩
  have P2 := Lib.hid hP; clear hP
  have B2 := Lib.hid ((B1.out.thenDn nq).trans hB); clear hB
  have hZ2 : w2.heap.size = w1.heap.size := hZ
  clear hZ
  clear P1 B1 i1 c1 c2
  have c1 : w2.cell? ⟨p, 1, none⟩ = some (.int .i64 R) := P2.out.box.cell (i := 1) (by omega)
  have c2 : w2.cell? ⟨p, 2, none⟩ = some (.int .i64 C) := P2.out.box.cell (i := 2) (by omega)
  go_wp2_with fail
  refine (moduleD _ p b R C cb m cc ws _ (0) ((C : Int) - 3) pos 2 P2.out (by omega) (by omega) i2.out hp (by omega) hm 3 rfl).mono ?_
  rintro e2 w3 ⟨rfl, hP, hB, hZ⟩
  have P3 := Lib.hid hP; clear hP
  have B3 := Lib.hid (B2.out.trans hB); clear hB
  clear P2 B2 i2 c1 c2
  have c1 : w3.cell? ⟨p, 1, none⟩ = some (.int .i64 R) := P3.out.box.cell (i := 1) (by omega)
  have c2 : w3.cell? ⟨p, 2, none⟩ = some (.int .i64 C) := P3.out.box.cell (i := 2) (by omega)
  go_wp2_with fail
  refine (moduleD _ p b R C cb m cc ws _ (0) ((C : Int) - 2) pos 3 P3.out (by omega) (by omega) i3.out hp (by omega) hm 4 rfl).mono ?_
  rintro e3 w4 ⟨rfl, hP, hB, hZ⟩
  have P4 := Lib.hid hP; clear hP
  have B4 := Lib.hid (B3.out.trans hB); clear hB
  clear P3 B3 i3 c1 c2
  have c1 : w4.cell? ⟨p, 1, none⟩ = some (.int .i64 R) := P4.out.box.cell (i := 1) (by omega)
  have c2 : w4.cell? ⟨p, 2, none⟩ = some (.int .i64 C) := P4.out.box.cell (i := 2) (by omega)
  go_wp2_with fail
  refine (moduleD _ p b R C cb m cc ws _ (0) ((C : Int) - 1) pos 4 P4.out (by omega) (by omega) i4.out hp (by omega) hm 5 rfl).mono ?_
  rintro e4 w5 ⟨rfl, hP, hB, hZ⟩
  have P5 := Lib.hid hP; clear hP
  have B5 := Lib.hid (B4.out.trans hB); clear hB
  clear P4 B4 i4 c1 c2
  have c1 : w5.cell? ⟨p, 1, none⟩ = some (.int .i64 R) := P5.out.box.cell (i := 1) (by omega)
  have c2 : w5.cell? ⟨p, 2, none⟩ = some (.int .i64 C) := P5.out.box.cell (i := 2) (by omega)
  go_wp2_with fail
  refine (moduleD _ p b R C cb m cc ws _ (1) ((C : Int) - 3) pos 5 P5.out (by omega) (by omega) i5.out hp (by omega) hm 6 rfl).mono ?_
  rintro e5 w6 ⟨rfl, hP, hB, hZ⟩
  have P6 := Lib.hid hP; clear hP
  have B6 := Lib.hid (B5.out.trans hB); clear hB
  clear P5 B5 i5 c1 c2
  have c1 : w6.cell? ⟨p, 1, none⟩ = some (.int .i64 R) := P6.out.box.cell (i := 1) (by omega)
  have c2 : w6.cell? ⟨p, 2, none⟩ = some (.int .i64 C) := P6.out.box.cell (i := 2) (by omega)
  go_wp2_with fail
  refine (moduleD _ p b R C cb m cc ws _ (1) ((C : Int) - 2) pos 6 P6.out (by omega) (by omega) i6.out hp (by omega) hm 7 rfl).mono ?_
  rintro e6 w7 ⟨rfl, hP, hB, hZ⟩
  have P7 := Lib.hid hP; clear hP
  have B7 := Lib.hid (B6.out.trans hB); clear hB
  clear P6 B6 i6 c1 c2
  have c1 : w7.cell? ⟨p, 1, none⟩ = some (.int .i64 R) := P7.out.box.cell (i := 1) (by omega)
  have c2 : w7.cell? ⟨p, 2, none⟩ = some (.int .i64 C) := P7.out.box.cell (i := 2) (by omega)
  go_wp2_with fail
  refine (moduleD _ p b R C cb m cc ws _ (1) ((C : Int) - 1) pos 7 P7.out (by omega) (by omega) i7.out hp (by omega) hm 8 rfl).mono ?_
  rintro e7 w8 ⟨rfl, hP, hB, hZ⟩
  have P8 := Lib.hid hP; clear hP
  have B8 := Lib.hid (B7.out.trans hB); clear hB
  clear P7 B7 i7 c1 c2
  go_wp2
  refine bodyPost_end (results_none rfl _ _ _) rfl ?_
  exact ⟨rfl, P8.out, B8.out, by simp only [*]⟩
end Go.Proofs.YtcnallabiffemaaGreatDoor
