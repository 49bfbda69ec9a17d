import Derived.Test.YtcnallabiffemaaGreatDoorM07
import Derived.Test.YtcnallabiffemaaGreatDoorM12
import Derived.Test.YtcnallabiffemaaGreatDoorP06
/- Part of the proof that a Data Matrix symbol of a text, damaged at most to half of its check codewords in each block, is decoded to the text (FnDecode): texts E24 E26 E27 E28 E29. -/
set_option linter.unusedVariables false
set_option linter.unusedSimpArgs false
namespace Zx

/-- the encoder's walk under way: k shapes are laid, g tells where -/
def Eat (R C : Nat) (n ph : Nat) (s : ES) (k : Nat) (g : Nat → Int) : Prop :=
  ∃ L done, runE R C n ph s L = true ∧ Laid R C g s.V done ∧ done.length = k ∧ done ++ L = layN R C
theorem Eat.bnd {R C n ph : Nat} {s : ES} {k : Nat} {g : Nat → Int} (h : Eat R C n ph s k g) : -200 ≤ s.row ∧ s.row ≤ 200 ∧ -200 ≤ s.col ∧ s.col ≤ 200 := by
  obtain ⟨L, done, h1, _⟩ := h
  exact runE_bnd h1
theorem Eat.le {R C n ph : Nat} {s : ES} {k : Nat} {g : Nat → Int} (h : Eat R C n ph s k g) : k ≤ (layN R C).length := by
  obtain ⟨L, done, _, _, h3, h4⟩ := h
  rw [← h4, List.length_append]; omega
theorem in_of_take {R C : Int} {sh : List Pl} {V V' : Nat} {g : Nat → Int} {v : Int} (h : take8 R C sh V = some V') (hs : Stood g V) (hv : 0 ≤ v) : ∀ pl ∈ sh, inR R C pl = true := by
  intro pl hpl
  obtain ⟨j, hj⟩ := List.getElem?_of_mem hpl
  exact ((putB_spec sh V V' g v h hs hv).2.2.1 j pl hj).2
theorem Eat.take {R C n ph : Nat} {s : ES} {k : Nat} {g : Nat → Int} {L : List Shp} {done : List Shp} {sh : Shp} {m : Nat} (h2 : Laid R C g s.V done) (h3 : done.length = k) (h4 : done ++ L = layN R C) (ht : tkE R C sh L s (fun s L => runE R C m ph s L) = true) :
    (∃ V, Eat R C m ph { s with V := V } (k + 1) (putB C g sh (8 * k))) ∧ (∀ pl ∈ sh, inR R C pl = true) ∧ k < (layN R C).length := by
  obtain ⟨L', V, rfl, h5, h6⟩ := tkE_spec ht
  have hl : sh.length = 8 := lay_len R C sh (by rw [← h4]; simp)
  have h7 := h2.next hl h5
  rw [h3] at h7
  refine ⟨⟨V, L', done ++ [sh], h6, h7, by simp [h3], by rw [← h4]; simp⟩, in_of_take (v := 0) h5 h2.st (by omega), ?_⟩
  rw [← h4]; simp; omega
theorem Eat.head {R C n : Nat} {s : ES} {k : Nat} {g : Nat → Int} (h : Eat R C n 0 s k g) : ∃ m, n = m + 1 ∧ (corner R C s.row s.col = none → Eat R C m 1 s k g) ∧
    (∀ sh, corner R C s.row s.col = some sh → (∃ V, Eat R C m 1 { s with V := V } (k + 1) (putB C g sh (8 * k))) ∧ (∀ pl ∈ sh, inR R C pl = true) ∧ k < (layN R C).length) := by
  obtain ⟨L, done, h1, h2, h3, h4⟩ := h
  obtain ⟨m, rfl, h5⟩ := runE_0 h1
  refine ⟨m, rfl, fun hc => ?_, fun sh hc => ?_⟩
  · rw [hc] at h5
    exact ⟨L, done, h5, h2, h3, h4⟩
  · rw [hc] at h5
    exact Eat.take (n := 0) h2 h3 h4 h5
theorem Eat.up {R C n : Nat} {s : ES} {k : Nat} {g : Nat → Int} (h : Eat R C n 1 s k g) : ∃ m, n = m + 1 ∧ (¬ (s.row < R ∧ s.col ≥ 0) → Eat R C m 4 s k g) ∧
    ((s.row < R ∧ s.col ≥ 0) → inR R C (s.row, s.col) = true ∧ (0 ≤ g (ix C (s.row, s.col)) → Eat R C m 4 s k g) ∧
      (¬ 0 ≤ g (ix C (s.row, s.col)) → (∃ V, Eat R C m 4 { s with V := V } (k + 1) (putB C g (utahS R C s.row s.col) (8 * k))) ∧ (∀ pl ∈ utahS R C s.row s.col, inR R C pl = true) ∧ k < (layN R C).length)) := by
  obtain ⟨L, done, h1, h2, h3, h4⟩ := h
  obtain ⟨m, rfl, h5⟩ := runE_1 h1
  refine ⟨m, rfl, fun hc => ?_, fun hc => ?_⟩
  · rw [if_neg hc] at h5
    exact ⟨L, done, h5, h2, h3, h4⟩
  · rw [if_pos hc] at h5
    obtain ⟨h6, h7⟩ := Bool.and_eq_true _ _ ▸ h5
    refine ⟨h6, fun hg => ?_, fun hg => ?_⟩
    · rw [if_pos ((h2.st _).2 hg)] at h7
      exact ⟨L, done, h7, h2, h3, h4⟩
    · rw [if_neg (fun h => hg ((h2.st _).1 h))] at h7
      exact Eat.take (n := 0) h2 h3 h4 h7
theorem Eat.down {R C n : Nat} {s : ES} {k : Nat} {g : Nat → Int} (h : Eat R C n 2 s k g) : ∃ m, n = m + 1 ∧ (¬ (s.row ≥ 0 ∧ s.col < C) → Eat R C m 5 s k g) ∧
    ((s.row ≥ 0 ∧ s.col < C) → inR R C (s.row, s.col) = true ∧ (0 ≤ g (ix C (s.row, s.col)) → Eat R C m 5 s k g) ∧
      (¬ 0 ≤ g (ix C (s.row, s.col)) → (∃ V, Eat R C m 5 { s with V := V } (k + 1) (putB C g (utahS R C s.row s.col) (8 * k))) ∧ (∀ pl ∈ utahS R C s.row s.col, inR R C pl = true) ∧ k < (layN R C).length)) := by
  obtain ⟨L, done, h1, h2, h3, h4⟩ := h
  obtain ⟨m, rfl, h5⟩ := runE_2 h1
  refine ⟨m, rfl, fun hc => ?_, fun hc => ?_⟩
  · rw [if_neg hc] at h5
    exact ⟨L, done, h5, h2, h3, h4⟩
  · rw [if_pos hc] at h5
    obtain ⟨h6, h7⟩ := Bool.and_eq_true _ _ ▸ h5
    refine ⟨h6, fun hg => ?_, fun hg => ?_⟩
    · rw [if_pos ((h2.st _).2 hg)] at h7
      exact ⟨L, done, h7, h2, h3, h4⟩
    · rw [if_neg (fun h => hg ((h2.st _).1 h))] at h7
      exact Eat.take (n := 0) h2 h3 h4 h7
theorem Eat.step4 {R C n : Nat} {s : ES} {k : Nat} {g : Nat → Int} (h : Eat R C n 4 s k g) : ∃ m, n = m + 1 ∧ ((s.row - 2 < 0 ∨ s.col + 2 ≥ C) → Eat R C m 2 { s with row := s.row - 1, col := s.col + 5 } k g) ∧ (¬ (s.row - 2 < 0 ∨ s.col + 2 ≥ C) → Eat R C m 1 { s with row := s.row - 2, col := s.col + 2 } k g) := by
  obtain ⟨L, done, h1, h2, h3, h4⟩ := h
  obtain ⟨m, rfl, h5⟩ := runE_4 h1
  refine ⟨m, rfl, fun hc => ?_, fun hc => ?_⟩
  · rw [if_pos hc] at h5; exact ⟨L, done, h5, h2, h3, h4⟩
  · rw [if_neg hc] at h5; exact ⟨L, done, h5, h2, h3, h4⟩
theorem Eat.step5 {R C n : Nat} {s : ES} {k : Nat} {g : Nat → Int} (h : Eat R C n 5 s k g) : ∃ m, n = m + 1 ∧ ((s.row + 2 ≥ R ∨ s.col - 2 < 0) → Eat R C m 3 { s with row := s.row + 5, col := s.col - 1 } k g) ∧ (¬ (s.row + 2 ≥ R ∨ s.col - 2 < 0) → Eat R C m 2 { s with row := s.row + 2, col := s.col - 2 } k g) := by
  obtain ⟨L, done, h1, h2, h3, h4⟩ := h
  obtain ⟨m, rfl, h5⟩ := runE_5 h1
  refine ⟨m, rfl, fun hc => ?_, fun hc => ?_⟩
  · rw [if_pos hc] at h5; exact ⟨L, done, h5, h2, h3, h4⟩
  · rw [if_neg hc] at h5; exact ⟨L, done, h5, h2, h3, h4⟩
theorem Eat.step3 {R C n : Nat} {s : ES} {k : Nat} {g : Nat → Int} (h : Eat R C n 3 s k g) : ∃ m, n = m + 1 ∧ ((s.row ≥ R ∧ s.col ≥ C) → Laid R C g s.V (layN R C)) ∧ (¬ (s.row ≥ R ∧ s.col ≥ C) → Eat R C m 0 s k g) := by
  obtain ⟨L, done, h1, h2, h3, h4⟩ := h
  obtain ⟨m, rfl, h5⟩ := runE_3 h1
  refine ⟨m, rfl, fun hc => ?_, fun hc => ?_⟩
  · rw [if_pos hc] at h5
    cases L with
    | nil => rw [List.append_nil] at h4; rw [← h4]; exact h2
    | cons a b => cases h5
  · rw [if_neg hc] at h5; exact ⟨L, done, h5, h2, h3, h4⟩
theorem Eat.start {R C : Nat} (h : okE R C = true) : Eat R C (fuelD R C) 0 ⟨4, 0, 0⟩ 0 (fun _ => -1) := ⟨layN R C, [], h, Laid.start _ _, rfl, rfl⟩
/-- which corner a place asks for -/
theorem corner_ci (R C : Nat) (row col : Int) : ∃ ci : Nat, ci ≤ 4 ∧ ((row = R ∧ col = 0) ↔ ci = 1) ∧ ((row = (R : Int) - 2 ∧ col = 0 ∧ ¬ (C : Int) % 4 = 0) ↔ ci = 2) ∧ ((row = (R : Int) - 2 ∧ col = 0 ∧ (C : Int) % 8 = 4) ↔ ci = 3) ∧ ((row = (R : Int) + 4 ∧ col = 2 ∧ (C : Int) % 8 = 0) ↔ ci = 4) ∧
    (ci = 0 → corner R C row col = none) ∧ (ci = 1 → corner R C row col = some (corn1 R C)) ∧ (ci = 2 → corner R C row col = some (corn2 R C)) ∧ (ci = 3 → corner R C row col = some (corn4 R C)) ∧ (ci = 4 → corner R C row col = some (corn3 R C)) := by
  unfold corner
  by_cases h1 : row = R ∧ col = 0
  · exact ⟨1, by omega, by omega, by omega, by omega, by omega, by omega, fun _ => by rw [if_pos h1], by omega, by omega, by omega⟩
  · by_cases h3 : row = (R : Int) - 2 ∧ col = 0 ∧ (C : Int) % 8 = 4
    · exact ⟨3, by omega, by omega, by omega, by omega, by omega, by omega, by omega, by omega, fun _ => by rw [if_neg h1, if_pos h3], by omega⟩
    · by_cases h2 : row = (R : Int) - 2 ∧ col = 0 ∧ (C : Int) % 4 ≠ 0
      · exact ⟨2, by omega, by omega, by omega, by omega, by omega, by omega, by omega, fun _ => by rw [if_neg h1, if_neg h3, if_pos h2], by omega, by omega⟩
      · by_cases h4 : row = (R : Int) + 4 ∧ col = 2 ∧ (C : Int) % 8 = 0
        · exact ⟨4, by omega, by omega, by omega, by omega, by omega, by omega, by omega, by omega, by omega, fun _ => by rw [if_neg h1, if_neg h3, if_neg h2, if_pos h4]⟩
        · exact ⟨0, by omega, by omega, by omega, by omega, by omega, fun _ => by rw [if_neg h1, if_neg h3, if_neg h2, if_neg h4], by omega, by omega, by omega, by omega⟩
end Zx
namespace Go.Proofs.YtcnallabiffemaaGreatDoor
open Go.RowKit (wrap32 wrap64 intOf Hid Below)
open Zx

/-! the package's matrix of bytes: rows of their own -/
structure By (w : World) (p a W H : Nat) (r : Nat → Nat) (f : Nat → Nat → Int) : Prop where
  box : w.rowIs p 276 3 (fun i => if i = 0 then .slice (some ⟨a, 0, none⟩) H H else if i = 1 then .int .i64 W else .int .i64 H)
  arr : w.rowIs a 214 H (fun y => .slice (some ⟨r y, 0, none⟩) W W)
  row : ∀ y, y < H → w.rowIs (r y) 217 W (fun x => .int .i8 (f y x))
  inj : ∀ y z, y < H → z < H → y ≠ z → r y ≠ r z
  ne : ∀ y, y < H → r y ≠ p ∧ r y ≠ a
theorem By.dn {w : World} {p a W H : Nat} {r : Nat → Nat} {f : Nat → Nat → Int} (h : By w p a W H r f) (n : Nat) : By (w.drewN n) p a W H r f := ⟨h.box, h.arr, h.row, h.inj, h.ne⟩
theorem By.below {w w' : World} {p a W H : Nat} {r : Nat → Nat} {f : Nat → Nat → Int} (h : By w p a W H r f) (hb : Below w.heap.size w w') : By w' p a W H r f :=
  ⟨rowIs_below h.box hb h.box.lt, rowIs_below h.arr hb h.arr.lt, fun y hy => rowIs_below (h.row y hy) hb (h.row y hy).lt, h.inj, h.ne⟩
/-- nothing but the rows is written -/
def ByS (H : Nat) (r : Nat → Nat) (k : Nat) : Prop := ∃ y, y < H ∧ k = r y
theorem By.set {w : World} {p a W H : Nat} {r : Nat → Nat} {f : Nat → Nat → Int} (h : By w p a W H r f) {x y : Nat} (hy : y < H) (v : Int) : By (w.setCell ⟨r y, x, none⟩ (.int .i8 v)) p a W H r (fun y' x' => if y' = y ∧ x' = x then v else f y' x') ∧ But (ByS H r) w (w.setCell ⟨r y, x, none⟩ (.int .i8 v)) := by
  have hb : But (· = r y) w (w.setCell ⟨r y, x, none⟩ (.int .i8 v)) := (But.refl (· = r y) w).thenSet (a := ⟨r y, x, none⟩) (.inl rfl) _
  refine ⟨⟨hb.row h.box (fun e => (h.ne y hy).1 e.symm), hb.row h.arr (fun e => (h.ne y hy).2 e.symm), fun z hz => ?_, h.inj, h.ne⟩, hb.weak fun k _ hk => ⟨y, hy, hk⟩⟩
  by_cases hzy : z = y
  · subst hzy
    refine ((h.row z hz).set x (.int .i8 v)).congr fun i _ => ?_
    by_cases hi' : i = x
    · rw [if_pos hi', if_pos ⟨rfl, hi'⟩]
    · rw [if_neg hi', if_neg (fun e => hi' e.2)]
  · refine (hb.row (h.row z hz) (h.inj z y hz hy hzy)).congr fun i _ => ?_
    rw [if_neg (fun e => hzy e.1)]
def BsTo (w : World) (p a W H : Nat) (r : Nat → Nat) (f : Nat → Nat → Int) (e : Ending) (w' : World) : Prop := e = .returned (.tuple #[]) ∧ By w' p a W H r f ∧ But (ByS H r) w w'
theorem setBool (w : World) (p a W H x y : Nat) (r : Nat → Nat) (f : Nat → Nat → Int) (h : By w p a W H r f) (hx : x < W) (hy : y < H) (bit : Bool) : Calls Tryz.prog 152 #[pt p, .int .i64 x, .int .i64 y, .bool bit] w (BsTo w p a W H r (fun y' x' => if y' = y ∧ x' = x then (if bit then 1 else 0) else f y' x')) := by
  have c0 : w.cell? ⟨p, 0, none⟩ = some (.slice (some ⟨a, 0, none⟩) H H) := h.box.cell (i := 0) (by omega)
  have c1 := h.arr.cell hy
  have c2 := (h.row y hy).cell hx
  have f2 := (h.row y hy).frozen x
  have s1 := h.set (x := x) hy 1
  have s0 := h.set (x := x) hy 0
  have S1 := Lib.hid s1; have S0 := Lib.hid s0
  clear h s1 s0
  go_enter Tryz.func152, Tryz.ntmps152
  cases bit with
  | true =>
    go_wp2
    refine bodyPost_end (results_none rfl _ _ _) rfl ?_
    exact ⟨rfl, S1.out⟩
  | false =>
    go_wp2
    refine bodyPost_end (results_none rfl _ _ _) rfl ?_
    exact ⟨rfl, S0.out⟩
theorem getBy (w : World) (p a W H x y : Nat) (r : Nat → Nat) (f : Nat → Nat → Int) (h : By w p a W H r f) (hx : x < W) (hy : y < H) : Calls Tryz.prog 205 #[pt p, .int .i64 x, .int .i64 y] w fun e w' => e = .returned (.int .i8 (f y x)) ∧ w' = w := by
  have c0 : w.cell? ⟨p, 0, none⟩ = some (.slice (some ⟨a, 0, none⟩) H H) := h.box.cell (i := 0) (by omega)
  have c1 := h.arr.cell hy
  have c2 := (h.row y hy).cell hx
  clear h
  go_enter Tryz.func205, Tryz.ntmps205
  go_wp2
  go_ret
  exact ⟨rfl, rfl⟩
theorem bwC (w : World) (p a W H : Nat) (r : Nat → Nat) (f : Nat → Nat → Int) (h : By w p a W H r f) : Calls Tryz.prog 202 #[pt p] w fun e w' => e = .returned (.int .i64 W) ∧ w' = w := by
  have c1 : w.cell? ⟨p, 1, none⟩ = some (.int .i64 W) := h.box.cell (i := 1) (by omega)
  go_enter Tryz.func202, Tryz.ntmps202
  go_wp2
  go_ret
  exact ⟨rfl, rfl⟩
theorem bhC (w : World) (p a W H : Nat) (r : Nat → Nat) (f : Nat → Nat → Int) (h : By w p a W H r f) : Calls Tryz.prog 203 #[pt p] w fun e w' => e = .returned (.int .i64 H) ∧ w' = w := by
  have c1 : w.cell? ⟨p, 2, none⟩ = some (.int .i64 H) := h.box.cell (i := 2) (by omega)
  go_enter Tryz.func203, Tryz.ntmps203
  go_wp2
  go_ret
  exact ⟨rfl, rfl⟩
theorem info217 : (Tryz.prog.info? 217).map (fun i => (i.zero, i.size, i.bytes)) = some (some (.int .i8 0), 1, 1) := by kernel_rfl
theorem info214 : (Tryz.prog.info? 214).map (fun i => (i.zero, i.size, i.bytes)) = some (some (.slice none 0 0), 1, 24) := by kernel_rfl
theorem mk8 (n : Nat) (hn : n ≤ 1000000) (w : World) : (Instr.makeSlice 214 (.int .i64 (n : Int)) (.int .i64 (n : Int))).run Tryz.prog w = .ok (.slice (some ⟨w.heap.size, 0, none⟩) n n) (w.alloc (.cells (madeCells #[.int .i8 0] n) 217)) :=
  run_make_row' (P := Tryz.prog) 214 217 (.int .i8 0) 1 Tryz.underlying214 info217 rfl .i64 .i64 n (by omega) (by omega) w
theorem mk88 (n : Nat) (hn : n ≤ 1000000) (w : World) : (Instr.makeSlice 274 (.int .i64 (n : Int)) (.int .i64 (n : Int))).run Tryz.prog w = .ok (.slice (some ⟨w.heap.size, 0, none⟩) n n) (w.alloc (.cells (madeCells #[.slice none 0 0] n) 214)) :=
  run_make_row' (P := Tryz.prog) 274 214 (.slice none 0 0) 24 Tryz.underlying274 info214 rfl .i64 .i64 n (by omega) (by omega) w

def NbTo (w : World) (W H : Nat) (e : Ending) (w' : World) : Prop := ∃ p a r, e = .returned (pt p) ∧ By w' p a W H r (fun _ _ => 0) ∧ w.heap.size ≤ p ∧ w.heap.size ≤ a ∧ (∀ y, y < H → w.heap.size ≤ r y) ∧ Below w.heap.size w w'
set_option maxRecDepth 100000 in
set_option maxHeartbeats 4000000 in
theorem newBy (w : World) (W H : Nat) (hW : W ≤ 1000) (hH : H ≤ 1000) : Calls Tryz.prog 150 #[.int .i64 W, .int .i64 H] w (NbTo w W H) := by
  have m1 := mk88 H (by omega)
  have m2 := mk8 W (by omega)
  go_enter Tryz.func150, Tryz.ntmps150
  go_wp2_with fail
  go_loopw [6] (fun s6 wr => ∃ y : Nat, s6 = .int .i64 y ∧ y ≤ H ∧ wr.heap.size = w.heap.size + 1 + y ∧ wr.rowIs w.heap.size 214 H (fun j => if j < y then .slice (some ⟨w.heap.size + 1 + j, 0, none⟩) W W else .slice none 0 0) ∧ (∀ j, j < y → wr.rowIs (w.heap.size + 1 + j) 217 W (fun _ => .int .i8 0)) ∧ Below w.heap.size w wr) (fun s6 _ => H - (intOf s6).toNat)
  case atStart => exact ⟨0, rfl, Nat.zero_le _, World.size_alloc _ _, (World.rowIs_made w (.slice none 0 0) H 214).congr fun j _ => by rw [if_neg (Nat.not_lt_zero _)], fun j hj => absurd hj (Nat.not_lt_zero _), (Below.refl _ _).alloc (Nat.le_refl _) _⟩
  case round =>
    obtain ⟨y, rfl, hy, hz, ha, hr, hb⟩ := hrel
    have HA := Lib.hid ha; have HR := Lib.hid hr; have HB := Lib.hid hb; have HZ := Lib.hid hz
    clear ha hr hb hz
    by_cases hyH : y < H
    · have ca := (HA.out.alloc (.cells (madeCells #[.int .i8 0] W) 217)).cell (i := y) hyH
      rw [if_neg (Nat.lt_irrefl y)] at ca
      have fa := (HA.out.alloc (.cells (madeCells #[.int .i8 0] W) 217)).frozen y
      have r1 := World.rowIs_made wr (.int .i8 0) W 217
      obtain ⟨B, hB⟩ : ∃ B, wr.heap.size = B := ⟨_, rfl⟩
      have hw2 : Hid (By w 0 0 0 0 (fun _ => 0) (fun _ _ => 0) → True) := Lib.hid fun _ => trivial
      have REL : Hid (∃ y' : Nat, (Value.int .i64 ((y : Int) + 1)) = .int .i64 y' ∧ y' ≤ H ∧ ((wr.alloc (.cells (madeCells #[.int .i8 0] W) 217)).setCell ⟨w.heap.size, y, none⟩ (.slice (some ⟨wr.heap.size, 0, none⟩) W W)).heap.size = w.heap.size + 1 + y' ∧
          ((wr.alloc (.cells (madeCells #[.int .i8 0] W) 217)).setCell ⟨w.heap.size, y, none⟩ (.slice (some ⟨wr.heap.size, 0, none⟩) W W)).rowIs w.heap.size 214 H (fun j => if j < y' then .slice (some ⟨w.heap.size + 1 + j, 0, none⟩) W W else .slice none 0 0) ∧
          (∀ j, j < y' → ((wr.alloc (.cells (madeCells #[.int .i8 0] W) 217)).setCell ⟨w.heap.size, y, none⟩ (.slice (some ⟨wr.heap.size, 0, none⟩) W W)).rowIs (w.heap.size + 1 + j) 217 W (fun _ => .int .i8 0)) ∧ Below w.heap.size w ((wr.alloc (.cells (madeCells #[.int .i8 0] W) 217)).setCell ⟨w.heap.size, y, none⟩ (.slice (some ⟨wr.heap.size, 0, none⟩) W W))) := Lib.hid (by
        refine ⟨y + 1, by go_num, hyH, by rw [World.size_setCell, World.size_alloc, HZ.out]; omega, ((HA.out.alloc _).set y _).congr fun j _ => ?_, fun j hj => ?_, (HB.out.alloc HB.out.size _).setCell (Nat.le_refl _) _⟩
        · by_cases h : j = y
          · rw [if_pos h, if_pos (by omega), h, HZ.out]
          · rw [if_neg h]
            by_cases h2 : j < y
            · rw [if_pos h2, if_pos (by omega)]
            · rw [if_neg h2, if_neg (by omega)]
        · by_cases h : j < y
          · exact ((HR.out j h).alloc _).setOther (by show _ + 1 + j ≠ w.heap.size; omega) _
          · obtain rfl : j = y := by omega
            rw [← HZ.out]
            exact r1.setOther (by show wr.heap.size ≠ w.heap.size; have := HZ.out; omega) _)
      clear r1 hB hw2
      go_wp2
      go_roundw
      case rel => exact REL.out
      case measure => simp [intOf]; omega
    · obtain rfl : H = y := by omega
      have r1 := row_litT wr #[.slice (some ⟨w.heap.size, 0, none⟩) H H, .int .i64 W, .int .i64 H] 276 3 (fun i => if i = 0 then .slice (some ⟨w.heap.size, 0, none⟩) H H else if i = 1 then .int .i64 W else .int .i64 H) rfl
      go_wp2
      go_returns
      exact ⟨wr.heap.size, w.heap.size, fun y => w.heap.size + 1 + y, rfl, ⟨r1, (HA.out.alloc _).congr fun j hj => if_pos hj, fun j hj => (HR.out j hj).alloc _, fun y z _ _ h => by omega, fun y hy => ⟨by have := HZ.out; omega, by omega⟩⟩, HB.out.size, Nat.le_refl _, fun y _ => by show w.heap.size ≤ w.heap.size + 1 + y; omega, HB.out.alloc HB.out.size _⟩
end Go.Proofs.YtcnallabiffemaaGreatDoor
namespace Go.Proofs.YtcnallabiffemaaGreatDoor
open Go.RowKit (wrap32 wrap64 intOf Hid Below)
open Zx

def E2To (w : World) (l : List Nat) (e : Ending) (w' : World) : Prop := ∃ v, e = .returned (.tuple #[v, .nilIface]) ∧ OwnB w' w.heap.size v l ∧ Below w.heap.size w w'
theorem cells_of {w : World} {g : Nat} (f : Nat → Nat) (m : Nat) (h : ∀ j, j < m → w.cell? ⟨g, j, none⟩ = some (byt (f j))) : ∀ (j : Nat) (u : Value), (((List.range m).map f).map byt)[j]? = some u → w.cell? ((⟨g, 0, none⟩ : Addr).add j) = some u := by
  intro j u hu
  rw [addr_add, Nat.zero_add]
  have hj : j < m := by have := (List.getElem?_eq_some_iff.1 hu).1; simpa using this
  rw [h j hj, ← hu]
  simp [hj]
set_option maxRecDepth 100000 in
set_option maxHeartbeats 4000000 in
/-- one block's check codewords, behind its data codewords -/
theorem ecc200 (w : World) (g m c b n t : Nat) (r : Bool) (mw mh rg rbe : Nat) (d : Nat → F) (hd : ∀ j, j < m → w.cell? ⟨g, j, none⟩ = some (byt (d j).v)) (hg : g < w.heap.size) (hm : 1 ≤ m ∧ m ≤ 200) (ht : t < 16) (hn : facL t = n) (hs : SiR w b r m n mw mh rg m rbe) (hb : b < w.heap.size) :
    Calls Tryz.prog 69 #[.slice (some ⟨g, 0, none⟩) m c, pt b] w (E2To w ((List.range m).map (fun j => (d j).v) ++ (List.range n).map (fun i => (eccF n (facF t) d m (n - 1 - i)).v))) := by
  have hn2 : 5 ≤ n ∧ n ≤ 68 := by
    have : ∀ t, t < 16 → 5 ≤ facL t ∧ facL t ≤ 68 := by decide +kernel
    rw [← hn]; exact this t ht
  have mk := mkB (m + n) (by omega)
  have o0 := Lib.hid (OwnV.made w 5 (.int .u8 0) (m + n) w.heap.size (by omega) (Nat.le_refl _))
  have b0 : Below w.heap.size w (w.alloc (.cells (madeCells #[.int .u8 0] (m + n)) 5)) := (Below.refl _ _).alloc (Nat.le_refl _) _
  have B0 := Lib.hid b0; clear b0
  have HD := Lib.hid hd; clear hd
  have HS := Lib.hid hs; clear hs
  obtain ⟨K, hK⟩ : ∃ K, m + n = K := ⟨_, rfl⟩
  have hKi : (m : Int) + (n : Int) = (K : Int) := by omega
  rw [hK] at mk o0 B0
  have HK := Lib.hid hK
  go_enter Tryz.func69, Tryz.ntmps69
  go_wp2_with fail
  refine (capC w b r m n mw mh rg m rbe HS.out).mono ?_
  rintro e w' ⟨rfl, hw⟩
  rw [hw]; clear hw
  go_wp2_with fail
  refine (capC w b r m n mw mh rg m rbe HS.out).mono ?_
  rintro e w' ⟨rfl, hw⟩
  rw [hw]; clear hw
  go_wp2_with fail
  refine (errC w b r m n mw mh rg m rbe HS.out).mono ?_
  rintro e w' ⟨rfl, hw⟩
  rw [hw]; clear hw
  obtain ⟨W1, hW1⟩ : ∃ W1, w.alloc (.cells (madeCells #[.int .u8 0] K) 5) = W1 := ⟨_, rfl⟩
  have CD : Hid (∀ (j : Nat) (u : Value), (((List.range m).map (fun j => (d j).v)).map byt)[j]? = some u → W1.cell? ((⟨g, 0, none⟩ : Addr).add j) = some u) := Lib.hid (cells_of _ m fun j hj => by rw [← hW1]; exact (B0.out.cell (p := ⟨g, j, none⟩) hg).trans (HD.out j hj))
  rw [hW1] at o0 B0
  have hl0 : (((List.range m).map (fun j => (d j).v)).map byt).length = m := by simp
  have HL0 := Lib.hid hl0; clear hl0
  go_wp2_with ((with_reducible show wpList _ _ _ (Oper.mk (some 36) _ _ _ _ _ :: _) _ _); go_loud (refine wpList_appV rfl (.tmp 34) (.tmp 35) 32 5 rfl Tryz.underlying32 (.int .u8 0) 1 infoB rfl (by decide) w.heap.size (.slice (some ⟨w.heap.size, 0, none⟩) 0 K) [] rfl o0.out ⟨g, 0, none⟩ m c (((List.range m).map (fun j => (d j).v)).map byt) rfl HL0.out CD.out (byt_one _) (by simp; omega) B0.out.size ?_; intro v1 w2 Hh; have OW2 : Hid (OwnB w2 w.heap.size v1 ((List.range m).map (fun j => (d j).v))) := Lib.hid (by have := Hh.out.own; rwa [List.nil_append] at this); have B2 := Lib.hid (B0.out.trans (Hh.out.but.below (by have := B0.out.size; omega) (fun k hk e => by have e2 : w.heap.size = k := Option.some.inj e; omega))); clear Hh))
  clear hW1 mk o0 CD B0 HL0
  have HS2 := Lib.hid (rowIs_below HS.out (B2.out) hb)
  have HD2 : Hid (∀ j, j < m → w2.cell? ⟨g, j, none⟩ = some (byt (d j).v)) := Lib.hid fun j hj => (B2.out.cell (p := ⟨g, j, none⟩) hg).trans (HD.out j hj)
  have hz2 := B2.out.size
  go_wp2_with fail
  refine (blocksN w2 b r m n mw mh rg m rbe HS2.out (by omega)).mono ?_
  rintro e w3 ⟨rfl, nq, rfl⟩
  rw [Nat.div_self (show 0 < m by omega)]
  have HS3 : Hid (SiR (w2.drewN nq) b r m n mw mh rg m rbe) := Lib.hid HS2.out
  have HD3 : Hid (∀ j, j < m → (w2.drewN nq).cell? ⟨g, j, none⟩ = some (byt (d j).v)) := Lib.hid HD2.out
  have B3 := Lib.hid (B2.out.trans (below_dn w.heap.size w2 nq))
  have OW3 : Hid (OwnB (w2.drewN nq) w.heap.size v1 ((List.range m).map (fun j => (d j).v))) := Lib.hid (OW2.out.below (below_dn _ _ _))
  have hz3 : w.heap.size ≤ (w2.drewN nq).heap.size := hz2
  clear HS2 HD2 B2 OW2 HS HD hz2
  generalize w2.drewN nq = w3 at HS3 HD3 B3 OW3 hz3 ⊢
  go_wp2_with fail
  refine (errC w3 b r m n mw mh rg m rbe HS3.out).mono ?_
  rintro e w' ⟨rfl, hw⟩
  rw [hw]; clear hw
  go_wp2_with fail
  refine (eccC w3 g m c n t d HD3.out (fun _ => by omega) (by omega) ht hn).mono ?_
  rintro e w4 ⟨ge, rfl, hre, hge, hb4⟩
  have CE : Hid (∀ (j : Nat) (u : Value), (((List.range n).map (fun i => (eccF n (facF t) d m (n - 1 - i)).v)).map byt)[j]? = some u → w4.cell? ((⟨ge, 0, none⟩ : Addr).add j) = some u) := Lib.hid (cells_of _ n fun j hj => hre.cell hj)
  have hl1 : (((List.range n).map (fun i => (eccF n (facF t) d m (n - 1 - i)).v)).map byt).length = n := by simp
  have HL1 := Lib.hid hl1
  have B4 := Lib.hid (B3.out.trans (hb4.mono hz3))
  have OW4 := Lib.hid (OW3.out.below hb4)
  clear hre hb4 hl1 B3 OW3 HS3 HD3
  have hlm : (((List.range m).map (fun j => (d j).v)).map byt).length = m := by simp
  have HLM := Lib.hid hlm; clear hlm
  rcases OW4.out.shape with ⟨_, h0⟩ | ⟨g1, cc1, hv1, _⟩
  · have := congrArg List.length h0
    rw [HLM.out] at this
    simp at this; omega
  subst hv1
  rw [HLM.out] at OW4 ⊢
  go_wp2_with ((with_reducible show wpList _ _ _ (Oper.mk (some 54) _ _ _ _ _ :: _) _ _); go_loud (refine wpList_appV rfl (.tmp 52) (.tmp 53) 32 5 rfl Tryz.underlying32 (.int .u8 0) 1 infoB rfl (by decide) w.heap.size (.slice (some ⟨g1, 0, none⟩) m cc1) (((List.range m).map (fun j => (d j).v)).map byt) rfl OW4.out ⟨ge, 0, none⟩ n n (((List.range n).map (fun i => (eccF n (facF t) d m (n - 1 - i)).v)).map byt) rfl HL1.out CE.out (byt_one _) (by rw [HLM.out]; omega) B4.out.size ?_; intro v2 w5 Hh; have OW5 := Lib.hid Hh.out.own; have B5 := Lib.hid (B4.out.trans (Hh.out.but.below B4.out.size (fun k hk e => by have := OW4.out.lt e; omega))); clear Hh))
  go_wp2
  go_ret2
  exact ⟨v2, rfl, by rw [OwnB, List.map_append]; exact OW5.out, B5.out⟩
end Go.Proofs.YtcnallabiffemaaGreatDoor
namespace Go.Proofs.YtcnallabiffemaaGreatDoor
open Go.RowKit (wrap32 wrap64 intOf Hid Below)
open Zx

set_option maxRecDepth 100000 in
set_option maxHeartbeats 4000000 in
/-- a bit matrix is cleared -/
theorem clearBm (w : World) (p b W H : Nat) (h : Bm w p b W H (fun _ => 0)) : Calls Tryz.prog 204 #[pt p] w fun e w' => e = .returned (.tuple #[]) ∧ Bm w' p b W H (fun _ => 0) ∧ But (· = b) w w' := by
  obtain ⟨Z, hZ⟩ : ∃ Z, (W + 31) / 32 * H = Z := ⟨_, rfl⟩
  have hzl : Z ≤ 33000 := by
    rw [← hZ]
    have h1 : (W + 31) / 32 ≤ 33 := by have := h.w1.2; omega
    exact Nat.mul_le_mul h1 h.h1.2
  have c3 : w.cell? ⟨p, 3, none⟩ = some (.slice (some ⟨b, 0, none⟩) Z Z) := by rw [← hZ]; exact h.box.cell (i := 3) (by omega)
  have H0 := Lib.hid h
  have hpb := h.ne
  have hpl := h.box.lt
  have r0 : w.rowIs b 91 Z (fun _ => .int .u32 0) := by rw [← hZ]; exact h.row
  have R0 := Lib.hid r0
  clear h r0
  go_enter Tryz.func204, Tryz.ntmps204
  go_wp2_with fail
  clear c3
  go_loopw [3] (fun s3 wr => ∃ i : Nat, s3 = .int .i64 i ∧ i ≤ Z ∧ wr.rowIs b 91 Z (fun _ => .int .u32 0) ∧ But (· = b) w wr) (fun s3 _ => Z - (intOf s3).toNat)
  case atStart => exact ⟨0, rfl, Nat.zero_le _, R0.out, But.refl _ _⟩
  case round =>
    clear R0
    obtain ⟨i, rfl, hi_, hr, hb⟩ := hrel
    by_cases hlt : i < Z
    · have c3 : wr.cell? ⟨p, 3, none⟩ = some (.slice (some ⟨b, 0, none⟩) Z Z) := (hb.cell (p := ⟨p, 3, none⟩) hpl hpb).trans (by rw [← hZ]; exact H0.out.box.cell (i := 3) (by omega))
      have cc := hr.cell hlt
      have ff := hr.frozen i
      have R := Lib.hid hr; have B := Lib.hid hb
      clear hr hb
      have HZ := Lib.hid hZ; clear hZ
      go_wp2
      go_roundw
      case rel => exact ⟨i + 1, by go_num, hlt, (R.out.set i _).congr fun j _ => by simp, B.out.thenSet (a := ⟨b, i, none⟩) (.inl rfl) _⟩
      case measure => simp [intOf]; omega
    · have hh : Bm wr p b W H (fun _ => 0) := ⟨hb.row H0.out.box hpb, by rw [hZ]; exact hr, H0.out.lt, H0.out.w1, H0.out.h1, hpb⟩
      have HH := Lib.hid hh
      clear hh hZ
      go_wp2
      refine bodyPost_end (results_none rfl _ _ _) rfl ?_
      exact ⟨rfl, HH.out, hb⟩

def PutM (W : Nat) (ws : Nat → Nat) (x y : Nat) : Nat → Nat := fun i => if i = y * ((W + 31) / 32) + x / 32 then ws i ||| 2 ^ (x % 32) else ws i
set_option maxRecDepth 100000 in
set_option maxHeartbeats 4000000 in
/-- a region of one module is set -/
theorem regionOne (w : World) (p b W H x y : Nat) (ws : Nat → Nat) (h : Bm w p b W H ws) (hx : x < W) (hy : y < H) :
    Calls Tryz.prog 206 #[pt p, .int .i64 x, .int .i64 y, .int .i64 1, .int .i64 1] w fun e w' => e = .returned .nilIface ∧ Bm w' p b W H (PutM W ws x y) ∧ But (· = b) w w' := by
  have hof := off_lt hx hy
  obtain ⟨k, hk2⟩ : ∃ k, (W + 31) / 32 = k := ⟨_, rfl⟩
  have hbx := h.box
  have c0 : w.cell? ⟨p, 0, none⟩ = some (.int .i64 W) := hbx.cell (i := 0) (by omega)
  have c1 : w.cell? ⟨p, 1, none⟩ = some (.int .i64 H) := hbx.cell (i := 1) (by omega)
  have c2 : w.cell? ⟨p, 2, none⟩ = some (.int .i64 k) := by rw [← hk2]; exact hbx.cell (i := 2) (by omega)
  have c3 := hbx.cell (i := 3) (by omega)
  have hrow := h.row
  have hl := h.lt _ hof
  have cw := hrow.cell hof
  have ff := hrow.frozen (y * ((W + 31) / 32) + x / 32)
  rw [hk2] at c3 hof cw hl ff
  have HH := Lib.hid h; clear h hbx hrow
  have e1 : (y : Int) * (k : Int) + (x : Int) / 32 = ((y * k + x / 32 : Nat) : Int) := by simp
  have hw1 := HH.out.w1
  have hh1 := HH.out.h1
  have hk3 : k ≤ 33 := by omega
  have hm : y * k ≤ 1000 * 33 := Nat.mul_le_mul (by omega) hk3
  have hm2 : ((y * k : Nat) : Int) = (y : Int) * (k : Int) := by simp
  have m1 : (0 : Int) ≤ (y : Int) * (k : Int) := by omega
  have m2 : (y : Int) * (k : Int) ≤ 33000 := by omega
  obtain ⟨g, hg⟩ : ∃ g, y * k + x / 32 = g := ⟨_, rfl⟩
  rw [hg] at e1 hof cw hl ff
  have hm3 : k * H ≤ 33 * 1000 := Nat.mul_le_mul hk3 (by omega)
  have hp := pow_mod (x % 32) (by omega)
  have hpl : 2 ^ (x % 32) < 2 ^ 32 := Nat.pow_lt_pow_right (by decide) (by omega)
  have hbm2 : Bm (w.setCell ⟨b, g, none⟩ (.int .u32 ((ws g ||| 2 ^ (x % 32) : Nat) : Int))) p b W H (PutM W ws x y) := by
    refine ⟨HH.out.box.setOther HH.out.ne _, (HH.out.row.set g _).congr fun i _ => ?_, fun i hi' => ?_, HH.out.w1, HH.out.h1, HH.out.ne⟩
    · unfold PutM
      rw [hk2, hg]; split
      · rename_i h; rw [h]
      · rfl
    · unfold PutM
      rw [hk2, hg]
      show (if i = g then _ else _) < _
      split
      · rename_i h; rw [h]; exact Nat.or_lt_two_pow hl hpl
      · exact HH.out.lt i hi'
  have BM2 := Lib.hid hbm2; clear hbm2
  have BT2 := Lib.hid ((But.refl (· = b) w).thenSet (a := ⟨b, g, none⟩) (.inl rfl) (.int .u32 ((ws g ||| 2 ^ (x % 32) : Nat) : Int)))
  have HP := Lib.hid hp; clear hp
  have hxw : (x : Int) + 1 ≤ W := by omega
  have hyw : (y : Int) + 1 ≤ H := by omega
  go_enter Tryz.func206, Tryz.ntmps206
  go_wp2_with fail
  go_loopw [13] (fun s13 wr => (s13 = .int .i64 y ∧ wr = w) ∨ (s13 = .int .i64 ((y : Int) + 1) ∧ Bm wr p b W H (PutM W ws x y) ∧ But (· = b) w wr)) (fun s13 _ => y + 1 - (intOf s13).toNat)
  case atStart => exact .inl ⟨rfl, rfl⟩
  case round =>
    rcases hrel with ⟨rfl, rfl⟩ | ⟨rfl, hbm, hbt⟩
    · go_wp2_with fail
      go_loopw [15] (fun s15 wq => (s15 = .int .i64 x ∧ wq = wr) ∨ (s15 = .int .i64 ((x : Int) + 1) ∧ Bm wq p b W H (PutM W ws x y) ∧ But (· = b) wr wq)) (fun s15 _ => x + 1 - (intOf s15).toNat)
      case atStart => exact .inl ⟨rfl, rfl⟩
      case round =>
        rcases hrel with ⟨rfl, rfl⟩ | ⟨rfl, hbm, hbt⟩
        · go_wp2_with fail
          go_roundw
          case rel => rw [HP.out, or_u32 _ _ hl hpl]; exact .inr ⟨rfl, BM2.out, BT2.out⟩
          case measure => simp [intOf]
        · have BM3 := Lib.hid hbm; have BT3 := Lib.hid hbt
          clear hbm hbt
          go_wp2_with fail
          go_roundw
          case rel => exact .inr ⟨rfl, BM3.out, BT3.out⟩
          case measure => simp [intOf]
    · have BM3 := Lib.hid hbm; have BT3 := Lib.hid hbt
      clear hbm hbt
      go_wp2
      go_ret
      exact ⟨rfl, BM3.out, BT3.out⟩
end Go.Proofs.YtcnallabiffemaaGreatDoor
namespace Go.Proofs.YtcnallabiffemaaGreatDoor
open Go.RowKit (wrap32 wrap64 intOf Hid Below)
open Zx

/-- which modules are set when the rows below Y and row Y up to X are done -/
def shown (f : Nat → Nat → Int) (Y X x y : Nat) : Bool := decide (y < Y ∨ (y = Y ∧ x < X)) && (f y x == 1)
theorem shown_zero (f : Nat → Nat → Int) (x y : Nat) : shown f 0 0 x y = false := by unfold shown; rw [decide_eq_false (by omega)]; rfl
theorem shown_row (f : Nat → Nat → Int) (Y W x y : Nat) (hx : x < W) : shown f Y W x y = shown f (Y + 1) 0 x y := by
  unfold shown
  rw [show decide (y < Y ∨ (y = Y ∧ x < W)) = decide (y < Y + 1 ∨ (y = Y + 1 ∧ x < 0)) from decide_eq_decide.2 (by omega)]
theorem shown_set (f : Nat → Nat → Int) (Y X x y : Nat) (h : f Y X = 1) : shown f Y (X + 1) x y = (shown f Y X x y || decide (x = X ∧ y = Y)) := by
  unfold shown
  by_cases h1 : x = X ∧ y = Y
  · obtain ⟨rfl, rfl⟩ := h1
    rw [h]; simp
  · rw [decide_eq_false h1, Bool.or_false, show decide (y < Y ∨ (y = Y ∧ x < X + 1)) = decide (y < Y ∨ (y = Y ∧ x < X)) from decide_eq_decide.2 (by omega)]
theorem shown_skip (f : Nat → Nat → Int) (Y X x y : Nat) (h : f Y X ≠ 1) : shown f Y (X + 1) x y = shown f Y X x y := by
  unfold shown
  by_cases h1 : x = X ∧ y = Y
  · obtain ⟨rfl, rfl⟩ := h1
    rw [show (f y x == 1) = false by simpa using h]; simp
  · rw [show decide (y < Y ∨ (y = Y ∧ x < X + 1)) = decide (y < Y ∨ (y = Y ∧ x < X)) from decide_eq_decide.2 (by omega)]
theorem By.keep {w w' : World} {p a W H : Nat} {r : Nat → Nat} {f : Nat → Nat → Int} (h : By w p a W H r f) {S : Nat → Prop} (hb : But S w w') (h1 : ¬ S p) (h2 : ¬ S a) (h3 : ∀ y, y < H → ¬ S (r y)) : By w' p a W H r f :=
  ⟨hb.row h.box h1, hb.row h.arr h2, fun y hy => hb.row (h.row y hy) (h3 y hy), h.inj, h.ne⟩

/-- a matrix of bits that shows the ones of f -/
def CvTo (w : World) (W H : Nat) (f : Nat → Nat → Int) (e : Ending) (w' : World) : Prop := ∃ p b ws, e = .returned (pt p) ∧ Bm w' p b W H ws ∧ (∀ x y, x < W → y < H → bmAt W ws x y = (f y x == 1)) ∧ w.heap.size ≤ p ∧ w.heap.size ≤ b ∧ Below w.heap.size w w'
set_option maxRecDepth 100000 in
set_option maxHeartbeats 8000000 in
theorem convC (w : World) (p a W H : Nat) (r : Nat → Nat) (f : Nat → Nat → Int) (h : By w p a W H r f) (hW : 1 ≤ W ∧ W ≤ 200) (hH : 1 ≤ H ∧ H ≤ 200) : Calls Tryz.prog 155 #[pt p, .int .i64 0, .int .i64 0] w (CvTo w W H f) := by
  have qw : (W : Int) / (W : Int) = 1 := Int.ediv_self (by omega)
  have qh : (H : Int) / (H : Int) = 1 := Int.ediv_self (by omega)
  have dw : ¬ W = 0 := by omega
  have dh : ¬ H = 0 := by omega
  have HB := Lib.hid h; clear h
  go_enter Tryz.func155, Tryz.ntmps155
  go_wp2_with fail
  refine (bwC w p a W H r f HB.out).mono ?_
  rintro e w' ⟨rfl, hw⟩
  rw [hw]; clear hw
  go_wp2_with fail
  refine (bhC w p a W H r f HB.out).mono ?_
  rintro e w' ⟨rfl, hw⟩
  rw [hw]; clear hw
  go_wp2_with fail
  refine (newBm w W H ⟨by omega, by omega⟩ ⟨by omega, by omega⟩).mono ?_
  rintro e w1 ⟨rfl, hbm, hz1, hb1⟩
  have HM := Lib.hid hbm; have HB1 := Lib.hid (HB.out.below hb1); have BB := Lib.hid hb1
  clear hbm hz1 hb1 qw qh
  go_wp2_with fail
  refine (clearBm w1 (w.heap.size + 1) w.heap.size W H HM.out).mono ?_
  rintro e w2 ⟨rfl, hbm, hbt⟩
  have HM2 := Lib.hid hbm; clear hbm HM
  have hlt : p < w.heap.size ∧ a < w.heap.size ∧ ∀ y, y < H → r y < w.heap.size := ⟨HB.out.box.lt, HB.out.arr.lt, fun y hy => (HB.out.row y hy).lt⟩
  have HB2 := Lib.hid (HB1.out.keep hbt (by omega) (by omega) (fun y hy => by have := hlt.2.2 y hy; omega))
  have BB2 := Lib.hid (BB.out.trans (hbt.below BB.out.size (fun k hk e => by omega)))
  clear HB1 BB hbt
  go_wp2_with fail
  go_loopw [16, 17] (fun s16 s17 wr => ∃ (y : Nat) (ws : Nat → Nat), s16 = .int .i64 y ∧ s17 = .int .i64 y ∧ y ≤ H ∧ Bm wr (w.heap.size + 1) w.heap.size W H ws ∧ (∀ x' y', x' < W → bmAt W ws x' y' = shown f y 0 x' y') ∧ By wr p a W H r f ∧ Below w.heap.size w wr) (fun s16 _ _ => H - (intOf s16).toNat)
  case atStart => exact ⟨0, _, rfl, rfl, Nat.zero_le _, HM2.out, fun x' y' _ => by rw [bmAt_zero, shown_zero], HB2.out, BB2.out⟩
  case round =>
    clear HM2 HB2 BB2
    obtain ⟨y, ws, rfl, rfl, hy, hbm, hsh, hby, hbe⟩ := hrel
    obtain ⟨w3, rfl⟩ : ∃ w3 : World, w3 = wr := ⟨_, rfl⟩
    have HM := Lib.hid hbm; have HS := Lib.hid hsh; have HY := Lib.hid hby; have BE := Lib.hid hbe
    clear hbm hsh hby hbe
    by_cases hyH : y < H
    · go_wp2_with fail
      go_loopw [18, 19] (fun s18 s19 wr => ∃ (x : Nat) (ws : Nat → Nat), s18 = .int .i64 x ∧ s19 = .int .i64 x ∧ x ≤ W ∧ Bm wr (w.heap.size + 1) w.heap.size W H ws ∧ (∀ x' y', x' < W → bmAt W ws x' y' = shown f y x x' y') ∧ By wr p a W H r f ∧ Below w.heap.size w wr) (fun s18 _ _ => W - (intOf s18).toNat)
      case atStart => exact ⟨0, ws, rfl, rfl, Nat.zero_le _, HM.out, HS.out, HY.out, BE.out⟩
      case round =>
        clear HM HS HY BE ws
        obtain ⟨x, ws, rfl, rfl, hx, hbm, hsh, hby, hbe⟩ := hrel
        obtain ⟨w4, rfl⟩ : ∃ w4 : World, w4 = wr := ⟨_, rfl⟩
        have HM := Lib.hid hbm; have HS := Lib.hid hsh; have HY := Lib.hid hby; have BE := Lib.hid hbe
        clear hbm hsh hby hbe
        by_cases hxW : x < W
        · obtain ⟨v, hv⟩ : ∃ v, f y x = v := ⟨_, rfl⟩
          have gb := getBy w4 p a W H x y r f HY.out hxW hyH
          rw [hv] at gb
          have HV := Lib.hid hv; clear hv
          go_wp2_with fail
          refine gb.mono ?_
          rintro e w' ⟨rfl, hw⟩
          rw [hw]; clear hw gb
          by_cases h1 : v = 1
          · subst h1
            go_wp2_with fail
            refine (regionOne w4 (w.heap.size + 1) w.heap.size W H x y ws HM.out hxW hyH).mono ?_
            rintro e w5 ⟨rfl, hbm5, hbt5⟩
            have HM5 := Lib.hid hbm5
            have HY5 := Lib.hid (HY.out.keep hbt5 (by omega) (by omega) (fun y hy => by have := hlt.2.2 y hy; omega))
            have BE5 := Lib.hid (BE.out.trans (hbt5.below BE.out.size (fun k hk e => by omega)))
            clear hbm5 hbt5
            go_wp2_with fail
            go_roundw
            case rel => exact ⟨x + 1, _, by go_num, by go_num, hxW, HM5.out, fun x' y' hx' => (bmAt_set W ws x y x' y' hxW hx').trans (by rw [HS.out x' y' hx', shown_set f y x x' y' HV.out]), HY5.out, BE5.out⟩
            case measure => simp [intOf]; omega
          · have q1 := int_bf h1
            have H1 := Lib.hid h1; clear h1
            go_wp2_with fail
            go_roundw
            case rel => exact ⟨x + 1, ws, by go_num, by go_num, hxW, HM.out, fun x' y' hx' => by rw [HS.out x' y' hx', shown_skip f y x x' y' (by rw [HV.out]; exact H1.out)], HY.out, BE.out⟩
            case measure => simp [intOf]; omega
        · obtain rfl : W = x := by omega
          go_wp2_with fail
          go_roundw
          case rel => exact ⟨y + 1, ws, by go_num, by go_num, hyH, HM.out, fun x' y' hx' => by rw [HS.out x' y' hx', shown_row f y W x' y' hx'], HY.out, BE.out⟩
          case measure => simp [intOf]; omega
    · obtain rfl : H = y := by omega
      go_wp2
      go_ret
      exact ⟨_, _, ws, rfl, HM.out, fun x' y' hx' hy' => by rw [HS.out x' y' hx', shown, decide_eq_true (.inl hy'), Bool.true_and], Nat.le_succ _, Nat.le_refl _, BE.out⟩
end Go.Proofs.YtcnallabiffemaaGreatDoor
