import Derived.Test.YtcnallabiffemaaGreatDoorM18
/- Part of the proof that a Data Matrix symbol of a text, damaged at most to half of its check codewords in each block, is decoded to the text (FnDecode): texts Vb. -/
set_option linter.unusedVariables false
set_option linter.unusedSimpArgs false
namespace Go.Proofs.YtcnallabiffemaaGreatDoor
open Go.RowKit (wrap32 wrap64 intOf Hid Below)
open Zx

/-- all versions -/
def verTab : List Ver := [
  ⟨1, 10, 10, 8, 8, 5, [(1, 3)]⟩,
  ⟨2, 12, 12, 10, 10, 7, [(1, 5)]⟩,
  ⟨3, 14, 14, 12, 12, 10, [(1, 8)]⟩,
  ⟨4, 16, 16, 14, 14, 12, [(1, 12)]⟩,
  ⟨5, 18, 18, 16, 16, 14, [(1, 18)]⟩,
  ⟨6, 20, 20, 18, 18, 18, [(1, 22)]⟩,
  ⟨7, 22, 22, 20, 20, 20, [(1, 30)]⟩,
  ⟨8, 24, 24, 22, 22, 24, [(1, 36)]⟩,
  ⟨9, 26, 26, 24, 24, 28, [(1, 44)]⟩,
  ⟨10, 32, 32, 14, 14, 36, [(1, 62)]⟩,
  ⟨11, 36, 36, 16, 16, 42, [(1, 86)]⟩,
  ⟨12, 40, 40, 18, 18, 48, [(1, 114)]⟩,
  ⟨13, 44, 44, 20, 20, 56, [(1, 144)]⟩,
  ⟨14, 48, 48, 22, 22, 68, [(1, 174)]⟩,
  ⟨15, 52, 52, 24, 24, 42, [(2, 102)]⟩,
  ⟨16, 64, 64, 14, 14, 56, [(2, 140)]⟩,
  ⟨17, 72, 72, 16, 16, 36, [(4, 92)]⟩,
  ⟨18, 80, 80, 18, 18, 48, [(4, 114)]⟩,
  ⟨19, 88, 88, 20, 20, 56, [(4, 144)]⟩,
  ⟨20, 96, 96, 22, 22, 68, [(4, 174)]⟩,
  ⟨21, 104, 104, 24, 24, 56, [(6, 136)]⟩,
  ⟨22, 120, 120, 18, 18, 68, [(6, 175)]⟩,
  ⟨23, 132, 132, 20, 20, 62, [(8, 163)]⟩,
  ⟨24, 144, 144, 22, 22, 62, [(8, 156), (2, 155)]⟩,
  ⟨25, 8, 18, 6, 16, 7, [(1, 5)]⟩,
  ⟨26, 8, 32, 6, 14, 11, [(1, 10)]⟩,
  ⟨27, 12, 26, 10, 24, 14, [(1, 16)]⟩,
  ⟨28, 12, 36, 10, 16, 18, [(1, 22)]⟩,
  ⟨29, 16, 36, 14, 16, 24, [(1, 32)]⟩,
  ⟨30, 16, 48, 14, 22, 28, [(1, 49)]⟩,
  ⟨31, 8, 48, 6, 22, 15, [(1, 18)]⟩,
  ⟨32, 8, 64, 6, 14, 18, [(1, 24)]⟩,
  ⟨33, 8, 80, 6, 18, 22, [(1, 32)]⟩,
  ⟨34, 8, 96, 6, 22, 28, [(1, 38)]⟩,
  ⟨35, 8, 120, 6, 18, 32, [(1, 49)]⟩,
  ⟨36, 8, 144, 6, 22, 36, [(1, 63)]⟩,
  ⟨37, 12, 64, 10, 14, 27, [(1, 43)]⟩,
  ⟨38, 12, 88, 10, 20, 36, [(1, 64)]⟩,
  ⟨39, 16, 64, 14, 14, 36, [(1, 62)]⟩,
  ⟨40, 20, 36, 18, 16, 28, [(1, 44)]⟩,
  ⟨41, 20, 44, 18, 20, 34, [(1, 56)]⟩,
  ⟨42, 20, 64, 18, 14, 42, [(1, 84)]⟩,
  ⟨43, 22, 48, 20, 22, 38, [(1, 72)]⟩,
  ⟨44, 24, 48, 22, 22, 41, [(1, 80)]⟩,
  ⟨45, 24, 64, 22, 14, 46, [(1, 108)]⟩,
  ⟨46, 26, 40, 24, 18, 38, [(1, 70)]⟩,
  ⟨47, 26, 48, 24, 22, 42, [(1, 90)]⟩,
  ⟨48, 26, 64, 24, 14, 50, [(1, 118)]⟩]

/-- one kind of blocks -/
theorem newVer1 (w : World) (no rows cols rr rc ec c d : Nat) (h1 : c ≤ 100) (h2 : d ≤ 2000) (h3 : ec ≤ 1000) :
    Calls Tryz.prog 228 #[.int .i64 no, .int .i64 rows, .int .i64 cols, .int .i64 rr, .int .i64 rc, pt (w.heap.size + 1)] ((w.alloc (.cells #[.int .i64 c, .int .i64 d] 156)).alloc (.cells #[.int .i64 ec, .slice (some ⟨w.heap.size, 0, none⟩) 1 1] 233))
      fun e w' => ∃ p, e = .returned (pt p) ∧ VerOk w' p ⟨no, rows, cols, rr, rc, ec, [(c, d)]⟩ ∧ Below w.heap.size w w' := by
  have b0 : Below w.heap.size w ((w.alloc (.cells #[.int .i64 c, .int .i64 d] 156)).alloc (.cells #[.int .i64 ec, .slice (some ⟨w.heap.size, 0, none⟩) 1 1] 233)) := ((Below.refl _ _).alloc (Nat.le_refl _) _).alloc (by rw [World.size_alloc]; omega) _
  have ne : ∀ i, ((w.alloc (.cells #[.int .i64 c, .int .i64 d] 156)).alloc (.cells #[.int .i64 ec, .slice (some ⟨w.heap.size, 0, none⟩) 1 1] 233)).cell? ⟨w.heap.size + 1, i, none⟩ = (#[Value.int .i64 ec, .slice (some ⟨w.heap.size, 0, none⟩) 1 1])[i]? := fun i => cell_new2 w _ _ _ i
  have ol : ∀ i, ((w.alloc (.cells #[.int .i64 c, .int .i64 d] 156)).alloc (.cells #[.int .i64 ec, .slice (some ⟨w.heap.size, 0, none⟩) 1 1] 233)).cell? ⟨w.heap.size, i, none⟩ = (#[Value.int .i64 c, .int .i64 d])[i]? := fun i =>
    (World.cell?_alloc_lt _ _ _ (by rw [World.size_alloc]; show w.heap.size < _; omega)).trans (World.cell?_alloc_new w _ _ i)
  have he : EcbOk ((w.alloc (.cells #[.int .i64 c, .int .i64 d] 156)).alloc (.cells #[.int .i64 ec, .slice (some ⟨w.heap.size, 0, none⟩) 1 1] 233)) (w.heap.size + 1) ec [(c, d)] := by
    refine ⟨⟨w.heap.size, ne 0, ne 1, fun j hj => ?_, by rw [World.size_alloc, World.size_alloc]; omega⟩, by rw [World.size_alloc, World.size_alloc]; omega⟩
    obtain rfl : j = 0 := by simpa using hj
    exact ⟨ol 0, ol 1⟩
  refine (newVer _ ⟨no, rows, cols, rr, rc, ec, [(c, d)]⟩ (w.heap.size + 1) he (by simp) (fun j hj => ?_) h3).mono ?_
  · obtain rfl : j = 0 := by simpa using hj
    exact ⟨h1, h2⟩
  · rintro e w' ⟨p, he, hv, hb⟩
    exact ⟨p, he, hv, b0.trans (hb.mono b0.size)⟩

/-- two kinds -/
theorem newVer2 (w : World) (no rows cols rr rc ec c d c' d' : Nat) (h1 : c ≤ 100) (h2 : d ≤ 2000) (h1' : c' ≤ 100) (h2' : d' ≤ 2000) (h3 : ec ≤ 1000) :
    Calls Tryz.prog 228 #[.int .i64 no, .int .i64 rows, .int .i64 cols, .int .i64 rr, .int .i64 rc, pt (w.heap.size + 1)] ((w.alloc (.cells #[.int .i64 c, .int .i64 d, .int .i64 c', .int .i64 d'] 156)).alloc (.cells #[.int .i64 ec, .slice (some ⟨w.heap.size, 0, none⟩) 2 2] 233))
      fun e w' => ∃ p, e = .returned (pt p) ∧ VerOk w' p ⟨no, rows, cols, rr, rc, ec, [(c, d), (c', d')]⟩ ∧ Below w.heap.size w w' := by
  have b0 : Below w.heap.size w ((w.alloc (.cells #[.int .i64 c, .int .i64 d, .int .i64 c', .int .i64 d'] 156)).alloc (.cells #[.int .i64 ec, .slice (some ⟨w.heap.size, 0, none⟩) 2 2] 233)) := ((Below.refl _ _).alloc (Nat.le_refl _) _).alloc (by rw [World.size_alloc]; omega) _
  have ne : ∀ i, ((w.alloc (.cells #[.int .i64 c, .int .i64 d, .int .i64 c', .int .i64 d'] 156)).alloc (.cells #[.int .i64 ec, .slice (some ⟨w.heap.size, 0, none⟩) 2 2] 233)).cell? ⟨w.heap.size + 1, i, none⟩ = (#[Value.int .i64 ec, .slice (some ⟨w.heap.size, 0, none⟩) 2 2])[i]? := fun i => cell_new2 w _ _ _ i
  have ol : ∀ i, ((w.alloc (.cells #[.int .i64 c, .int .i64 d, .int .i64 c', .int .i64 d'] 156)).alloc (.cells #[.int .i64 ec, .slice (some ⟨w.heap.size, 0, none⟩) 2 2] 233)).cell? ⟨w.heap.size, i, none⟩ = (#[Value.int .i64 c, .int .i64 d, .int .i64 c', .int .i64 d'])[i]? := fun i =>
    (World.cell?_alloc_lt _ _ _ (by rw [World.size_alloc]; show w.heap.size < _; omega)).trans (World.cell?_alloc_new w _ _ i)
  have he : EcbOk ((w.alloc (.cells #[.int .i64 c, .int .i64 d, .int .i64 c', .int .i64 d'] 156)).alloc (.cells #[.int .i64 ec, .slice (some ⟨w.heap.size, 0, none⟩) 2 2] 233)) (w.heap.size + 1) ec [(c, d), (c', d')] := by
    refine ⟨⟨w.heap.size, ne 0, ne 1, fun j hj => ?_, by rw [World.size_alloc, World.size_alloc]; omega⟩, by rw [World.size_alloc, World.size_alloc]; omega⟩
    match j, hj with
    | 0, _ => exact ⟨ol 0, ol 1⟩
    | 1, _ => exact ⟨ol 2, ol 3⟩
    | n + 2, h => exact absurd h (by simp)
  refine (newVer _ ⟨no, rows, cols, rr, rc, ec, [(c, d), (c', d')]⟩ (w.heap.size + 1) he (by simp) (fun j hj => ?_) h3).mono ?_
  · match j, hj with
    | 0, _ => exact ⟨h1, h2⟩
    | 1, _ => exact ⟨h1', h2'⟩
    | n + 2, h => exact absurd h (by simp)
  · rintro e w' ⟨p, he, hv, hb⟩
    exact ⟨p, he, hv, b0.trans (hb.mono b0.size)⟩

def AllOk (w0 w : World) (l : List (Nat × Ver)) : Prop := (∀ x ∈ l, VerOk w x.1 x.2) ∧ Below w0.heap.size w0 w
theorem AllOk.step {w0 w w' : World} {l : List (Nat × Ver)} (h : AllOk w0 w l) {p : Nat} {v : Ver} (hv : VerOk w' p v) (hb : Below w.heap.size w w') : AllOk w0 w' ((p, v) :: l) :=
  ⟨fun x hx => by
    rcases List.mem_cons.1 hx with rfl | hx
    · exact hv
    · exact (h.1 x hx).below hb, h.2.trans (hb.mono h.2.size)⟩

/-- the table of versions in memory -/
def Vers (w0 : World) (e : Ending) (w' : World) : Prop :=
  ∃ (b : Nat) (L : List (Nat × Ver)), e = .returned (.slice (some ⟨b, 0, none⟩) 48 48) ∧ L.map Prod.snd = verTab ∧ (∀ x ∈ L, VerOk w' x.1 x.2) ∧ (∀ j, j < 48 → w'.cell? ⟨b, j, none⟩ = (L.map (fun x => pt x.1))[j]?) ∧ b < w'.heap.size ∧ Below w0.heap.size w0 w'


theorem vers_fin (w w48 : World) (p1 p2 p3 p4 p5 p6 p7 p8 p9 p10 p11 p12 p13 p14 p15 p16 p17 p18 p19 p20 p21 p22 p23 p24 p25 p26 p27 p28 p29 p30 p31 p32 p33 p34 p35 p36 p37 p38 p39 p40 p41 p42 p43 p44 p45 p46 p47 p48 : Nat) (A : AllOk w w48 [(p48, ⟨48, 26, 64, 24, 14, 50, [(1, 118)]⟩), (p47, ⟨47, 26, 48, 24, 22, 42, [(1, 90)]⟩), (p46, ⟨46, 26, 40, 24, 18, 38, [(1, 70)]⟩), (p45, ⟨45, 24, 64, 22, 14, 46, [(1, 108)]⟩), (p44, ⟨44, 24, 48, 22, 22, 41, [(1, 80)]⟩), (p43, ⟨43, 22, 48, 20, 22, 38, [(1, 72)]⟩), (p42, ⟨42, 20, 64, 18, 14, 42, [(1, 84)]⟩), (p41, ⟨41, 20, 44, 18, 20, 34, [(1, 56)]⟩), (p40, ⟨40, 20, 36, 18, 16, 28, [(1, 44)]⟩), (p39, ⟨39, 16, 64, 14, 14, 36, [(1, 62)]⟩), (p38, ⟨38, 12, 88, 10, 20, 36, [(1, 64)]⟩), (p37, ⟨37, 12, 64, 10, 14, 27, [(1, 43)]⟩), (p36, ⟨36, 8, 144, 6, 22, 36, [(1, 63)]⟩), (p35, ⟨35, 8, 120, 6, 18, 32, [(1, 49)]⟩), (p34, ⟨34, 8, 96, 6, 22, 28, [(1, 38)]⟩), (p33, ⟨33, 8, 80, 6, 18, 22, [(1, 32)]⟩), (p32, ⟨32, 8, 64, 6, 14, 18, [(1, 24)]⟩), (p31, ⟨31, 8, 48, 6, 22, 15, [(1, 18)]⟩), (p30, ⟨30, 16, 48, 14, 22, 28, [(1, 49)]⟩), (p29, ⟨29, 16, 36, 14, 16, 24, [(1, 32)]⟩), (p28, ⟨28, 12, 36, 10, 16, 18, [(1, 22)]⟩), (p27, ⟨27, 12, 26, 10, 24, 14, [(1, 16)]⟩), (p26, ⟨26, 8, 32, 6, 14, 11, [(1, 10)]⟩), (p25, ⟨25, 8, 18, 6, 16, 7, [(1, 5)]⟩), (p24, ⟨24, 144, 144, 22, 22, 62, [(8, 156), (2, 155)]⟩), (p23, ⟨23, 132, 132, 20, 20, 62, [(8, 163)]⟩), (p22, ⟨22, 120, 120, 18, 18, 68, [(6, 175)]⟩), (p21, ⟨21, 104, 104, 24, 24, 56, [(6, 136)]⟩), (p20, ⟨20, 96, 96, 22, 22, 68, [(4, 174)]⟩), (p19, ⟨19, 88, 88, 20, 20, 56, [(4, 144)]⟩), (p18, ⟨18, 80, 80, 18, 18, 48, [(4, 114)]⟩), (p17, ⟨17, 72, 72, 16, 16, 36, [(4, 92)]⟩), (p16, ⟨16, 64, 64, 14, 14, 56, [(2, 140)]⟩), (p15, ⟨15, 52, 52, 24, 24, 42, [(2, 102)]⟩), (p14, ⟨14, 48, 48, 22, 22, 68, [(1, 174)]⟩), (p13, ⟨13, 44, 44, 20, 20, 56, [(1, 144)]⟩), (p12, ⟨12, 40, 40, 18, 18, 48, [(1, 114)]⟩), (p11, ⟨11, 36, 36, 16, 16, 42, [(1, 86)]⟩), (p10, ⟨10, 32, 32, 14, 14, 36, [(1, 62)]⟩), (p9, ⟨9, 26, 26, 24, 24, 28, [(1, 44)]⟩), (p8, ⟨8, 24, 24, 22, 22, 24, [(1, 36)]⟩), (p7, ⟨7, 22, 22, 20, 20, 20, [(1, 30)]⟩), (p6, ⟨6, 20, 20, 18, 18, 18, [(1, 22)]⟩), (p5, ⟨5, 18, 18, 16, 16, 14, [(1, 18)]⟩), (p4, ⟨4, 16, 16, 14, 14, 12, [(1, 12)]⟩), (p3, ⟨3, 14, 14, 12, 12, 10, [(1, 8)]⟩), (p2, ⟨2, 12, 12, 10, 10, 7, [(1, 5)]⟩), (p1, ⟨1, 10, 10, 8, 8, 5, [(1, 3)]⟩)]) :
    Vers w (.returned (.slice (some ⟨w48.heap.size, 0, none⟩) 48 48)) (w48.alloc (.cells #[pt p1, pt p2, pt p3, pt p4, pt p5, pt p6, pt p7, pt p8, pt p9, pt p10, pt p11, pt p12, pt p13, pt p14, pt p15, pt p16, pt p17, pt p18, pt p19, pt p20, pt p21, pt p22, pt p23, pt p24, pt p25, pt p26, pt p27, pt p28, pt p29, pt p30, pt p31, pt p32, pt p33, pt p34, pt p35, pt p36, pt p37, pt p38, pt p39, pt p40, pt p41, pt p42, pt p43, pt p44, pt p45, pt p46, pt p47, pt p48] 102)) := by
  have hb : Below w48.heap.size w48 (w48.alloc (.cells #[pt p1, pt p2, pt p3, pt p4, pt p5, pt p6, pt p7, pt p8, pt p9, pt p10, pt p11, pt p12, pt p13, pt p14, pt p15, pt p16, pt p17, pt p18, pt p19, pt p20, pt p21, pt p22, pt p23, pt p24, pt p25, pt p26, pt p27, pt p28, pt p29, pt p30, pt p31, pt p32, pt p33, pt p34, pt p35, pt p36, pt p37, pt p38, pt p39, pt p40, pt p41, pt p42, pt p43, pt p44, pt p45, pt p46, pt p47, pt p48] 102)) := (Below.refl _ _).alloc (Nat.le_refl _) _
  have AL : ∀ x ∈ ([(p1, ⟨1, 10, 10, 8, 8, 5, [(1, 3)]⟩), (p2, ⟨2, 12, 12, 10, 10, 7, [(1, 5)]⟩), (p3, ⟨3, 14, 14, 12, 12, 10, [(1, 8)]⟩), (p4, ⟨4, 16, 16, 14, 14, 12, [(1, 12)]⟩), (p5, ⟨5, 18, 18, 16, 16, 14, [(1, 18)]⟩), (p6, ⟨6, 20, 20, 18, 18, 18, [(1, 22)]⟩), (p7, ⟨7, 22, 22, 20, 20, 20, [(1, 30)]⟩), (p8, ⟨8, 24, 24, 22, 22, 24, [(1, 36)]⟩), (p9, ⟨9, 26, 26, 24, 24, 28, [(1, 44)]⟩), (p10, ⟨10, 32, 32, 14, 14, 36, [(1, 62)]⟩), (p11, ⟨11, 36, 36, 16, 16, 42, [(1, 86)]⟩), (p12, ⟨12, 40, 40, 18, 18, 48, [(1, 114)]⟩), (p13, ⟨13, 44, 44, 20, 20, 56, [(1, 144)]⟩), (p14, ⟨14, 48, 48, 22, 22, 68, [(1, 174)]⟩), (p15, ⟨15, 52, 52, 24, 24, 42, [(2, 102)]⟩), (p16, ⟨16, 64, 64, 14, 14, 56, [(2, 140)]⟩), (p17, ⟨17, 72, 72, 16, 16, 36, [(4, 92)]⟩), (p18, ⟨18, 80, 80, 18, 18, 48, [(4, 114)]⟩), (p19, ⟨19, 88, 88, 20, 20, 56, [(4, 144)]⟩), (p20, ⟨20, 96, 96, 22, 22, 68, [(4, 174)]⟩), (p21, ⟨21, 104, 104, 24, 24, 56, [(6, 136)]⟩), (p22, ⟨22, 120, 120, 18, 18, 68, [(6, 175)]⟩), (p23, ⟨23, 132, 132, 20, 20, 62, [(8, 163)]⟩), (p24, ⟨24, 144, 144, 22, 22, 62, [(8, 156), (2, 155)]⟩), (p25, ⟨25, 8, 18, 6, 16, 7, [(1, 5)]⟩), (p26, ⟨26, 8, 32, 6, 14, 11, [(1, 10)]⟩), (p27, ⟨27, 12, 26, 10, 24, 14, [(1, 16)]⟩), (p28, ⟨28, 12, 36, 10, 16, 18, [(1, 22)]⟩), (p29, ⟨29, 16, 36, 14, 16, 24, [(1, 32)]⟩), (p30, ⟨30, 16, 48, 14, 22, 28, [(1, 49)]⟩), (p31, ⟨31, 8, 48, 6, 22, 15, [(1, 18)]⟩), (p32, ⟨32, 8, 64, 6, 14, 18, [(1, 24)]⟩), (p33, ⟨33, 8, 80, 6, 18, 22, [(1, 32)]⟩), (p34, ⟨34, 8, 96, 6, 22, 28, [(1, 38)]⟩), (p35, ⟨35, 8, 120, 6, 18, 32, [(1, 49)]⟩), (p36, ⟨36, 8, 144, 6, 22, 36, [(1, 63)]⟩), (p37, ⟨37, 12, 64, 10, 14, 27, [(1, 43)]⟩), (p38, ⟨38, 12, 88, 10, 20, 36, [(1, 64)]⟩), (p39, ⟨39, 16, 64, 14, 14, 36, [(1, 62)]⟩), (p40, ⟨40, 20, 36, 18, 16, 28, [(1, 44)]⟩), (p41, ⟨41, 20, 44, 18, 20, 34, [(1, 56)]⟩), (p42, ⟨42, 20, 64, 18, 14, 42, [(1, 84)]⟩), (p43, ⟨43, 22, 48, 20, 22, 38, [(1, 72)]⟩), (p44, ⟨44, 24, 48, 22, 22, 41, [(1, 80)]⟩), (p45, ⟨45, 24, 64, 22, 14, 46, [(1, 108)]⟩), (p46, ⟨46, 26, 40, 24, 18, 38, [(1, 70)]⟩), (p47, ⟨47, 26, 48, 24, 22, 42, [(1, 90)]⟩), (p48, ⟨48, 26, 64, 24, 14, 50, [(1, 118)]⟩)] : List (Nat × Ver)), VerOk w48 x.1 x.2 := fun x hx => A.1 x (List.mem_reverse.2 hx)
  refine ⟨w48.heap.size, [(p1, ⟨1, 10, 10, 8, 8, 5, [(1, 3)]⟩), (p2, ⟨2, 12, 12, 10, 10, 7, [(1, 5)]⟩), (p3, ⟨3, 14, 14, 12, 12, 10, [(1, 8)]⟩), (p4, ⟨4, 16, 16, 14, 14, 12, [(1, 12)]⟩), (p5, ⟨5, 18, 18, 16, 16, 14, [(1, 18)]⟩), (p6, ⟨6, 20, 20, 18, 18, 18, [(1, 22)]⟩), (p7, ⟨7, 22, 22, 20, 20, 20, [(1, 30)]⟩), (p8, ⟨8, 24, 24, 22, 22, 24, [(1, 36)]⟩), (p9, ⟨9, 26, 26, 24, 24, 28, [(1, 44)]⟩), (p10, ⟨10, 32, 32, 14, 14, 36, [(1, 62)]⟩), (p11, ⟨11, 36, 36, 16, 16, 42, [(1, 86)]⟩), (p12, ⟨12, 40, 40, 18, 18, 48, [(1, 114)]⟩), (p13, ⟨13, 44, 44, 20, 20, 56, [(1, 144)]⟩), (p14, ⟨14, 48, 48, 22, 22, 68, [(1, 174)]⟩), (p15, ⟨15, 52, 52, 24, 24, 42, [(2, 102)]⟩), (p16, ⟨16, 64, 64, 14, 14, 56, [(2, 140)]⟩), (p17, ⟨17, 72, 72, 16, 16, 36, [(4, 92)]⟩), (p18, ⟨18, 80, 80, 18, 18, 48, [(4, 114)]⟩), (p19, ⟨19, 88, 88, 20, 20, 56, [(4, 144)]⟩), (p20, ⟨20, 96, 96, 22, 22, 68, [(4, 174)]⟩), (p21, ⟨21, 104, 104, 24, 24, 56, [(6, 136)]⟩), (p22, ⟨22, 120, 120, 18, 18, 68, [(6, 175)]⟩), (p23, ⟨23, 132, 132, 20, 20, 62, [(8, 163)]⟩), (p24, ⟨24, 144, 144, 22, 22, 62, [(8, 156), (2, 155)]⟩), (p25, ⟨25, 8, 18, 6, 16, 7, [(1, 5)]⟩), (p26, ⟨26, 8, 32, 6, 14, 11, [(1, 10)]⟩), (p27, ⟨27, 12, 26, 10, 24, 14, [(1, 16)]⟩), (p28, ⟨28, 12, 36, 10, 16, 18, [(1, 22)]⟩), (p29, ⟨29, 16, 36, 14, 16, 24, [(1, 32)]⟩), (p30, ⟨30, 16, 48, 14, 22, 28, [(1, 49)]⟩), (p31, ⟨31, 8, 48, 6, 22, 15, [(1, 18)]⟩), (p32, ⟨32, 8, 64, 6, 14, 18, [(1, 24)]⟩), (p33, ⟨33, 8, 80, 6, 18, 22, [(1, 32)]⟩), (p34, ⟨34, 8, 96, 6, 22, 28, [(1, 38)]⟩), (p35, ⟨35, 8, 120, 6, 18, 32, [(1, 49)]⟩), (p36, ⟨36, 8, 144, 6, 22, 36, [(1, 63)]⟩), (p37, ⟨37, 12, 64, 10, 14, 27, [(1, 43)]⟩), (p38, ⟨38, 12, 88, 10, 20, 36, [(1, 64)]⟩), (p39, ⟨39, 16, 64, 14, 14, 36, [(1, 62)]⟩), (p40, ⟨40, 20, 36, 18, 16, 28, [(1, 44)]⟩), (p41, ⟨41, 20, 44, 18, 20, 34, [(1, 56)]⟩), (p42, ⟨42, 20, 64, 18, 14, 42, [(1, 84)]⟩), (p43, ⟨43, 22, 48, 20, 22, 38, [(1, 72)]⟩), (p44, ⟨44, 24, 48, 22, 22, 41, [(1, 80)]⟩), (p45, ⟨45, 24, 64, 22, 14, 46, [(1, 108)]⟩), (p46, ⟨46, 26, 40, 24, 18, 38, [(1, 70)]⟩), (p47, ⟨47, 26, 48, 24, 22, 42, [(1, 90)]⟩), (p48, ⟨48, 26, 64, 24, 14, 50, [(1, 118)]⟩)], rfl, rfl, fun x hx => (AL x hx).below hb, fun j hj => ?_, by rw [World.size_alloc]; omega, A.2.trans (hb.mono A.2.size)⟩
  rw [World.cell?_alloc_new, ← Array.getElem?_toList]
  rfl

set_option maxRecDepth 100000 in
set_option maxHeartbeats 4000000 in
theorem versC (w : World) : Calls Tryz.prog 207 #[] w (Vers w) := by
  have A0 : Hid (AllOk w w []) := Lib.hid ⟨fun x hx => (nomatch hx), Below.refl _ _⟩
  go_enter Tryz.func207, Tryz.ntmps207
  go_wp2_with fail
  refine (newVer1 w 1 10 10 8 8 5 1 3 (by decide) (by decide) (by decide)).mono ?_
  rintro e w1 ⟨p1, rfl, hv, hb⟩
  have A1 := Lib.hid (A0.out.step hv hb); clear A0 hv hb
  go_wp2_with fail
  refine (newVer1 w1 2 12 12 10 10 7 1 5 (by decide) (by decide) (by decide)).mono ?_
  rintro e w2 ⟨p2, rfl, hv, hb⟩
  have A2 := Lib.hid (A1.out.step hv hb); clear A1 hv hb
  go_wp2_with fail
  refine (newVer1 w2 3 14 14 12 12 10 1 8 (by decide) (by decide) (by decide)).mono ?_
  rintro e w3 ⟨p3, rfl, hv, hb⟩
  have A3 := Lib.hid (A2.out.step hv hb); clear A2 hv hb
  go_wp2_with fail
  refine (newVer1 w3 4 16 16 14 14 12 1 12 (by decide) (by decide) (by decide)).mono ?_
  rintro e w4 ⟨p4, rfl, hv, hb⟩
  have A4 := Lib.hid (A3.out.step hv hb); clear A3 hv hb
  go_wp2_with fail
  refine (newVer1 w4 5 18 18 16 16 14 1 18 (by decide) (by decide) (by decide)).mono ?_
  rintro e w5 ⟨p5, rfl, hv, hb⟩
  have A5 := Lib.hid (A4.out.step hv hb); clear A4 hv hb
  go_wp2_with fail
  refine (newVer1 w5 6 20 20 18 18 18 1 22 (by decide) (by decide) (by decide)).mono ?_
  rintro e w6 ⟨p6, rfl, hv, hb⟩
  have A6 := Lib.hid (A5.out.step hv hb); clear A5 hv hb
  go_wp2_with fail
  refine (newVer1 w6 7 22 22 20 20 20 1 30 (by decide) (by decide) (by decide)).mono ?_
  rintro e w7 ⟨p7, rfl, hv, hb⟩
  have A7 := Lib.hid (A6.out.step hv hb); clear A6 hv hb
  go_wp2_with fail
  refine (newVer1 w7 8 24 24 22 22 24 1 36 (by decide) (by decide) (by decide)).mono ?_
  rintro e w8 ⟨p8, rfl, hv, hb⟩
  have A8 := Lib.hid (A7.out.step hv hb); clear A7 hv hb
  go_wp2_with fail
  refine (newVer1 w8 9 26 26 24 24 28 1 44 (by decide) (by decide) (by decide)).mono ?_
  rintro e w9 ⟨p9, rfl, hv, hb⟩
  have A9 := Lib.hid (A8.out.step hv hb); clear A8 hv hb
  go_wp2_with fail
  refine (newVer1 w9 10 32 32 14 14 36 1 62 (by decide) (by decide) (by decide)).mono ?_
  rintro e w10 ⟨p10, rfl, hv, hb⟩
  have A10 := Lib.hid (A9.out.step hv hb); clear A9 hv hb
  go_wp2_with fail
  refine (newVer1 w10 11 36 36 16 16 42 1 86 (by decide) (by decide) (by decide)).mono ?_
  rintro e w11 ⟨p11, rfl, hv, hb⟩
  have A11 := Lib.hid (A10.out.step hv hb); clear A10 hv hb
  go_wp2_with fail
  refine (newVer1 w11 12 40 40 18 18 48 1 114 (by decide) (by decide) (by decide)).mono ?_
  rintro e w12 ⟨p12, rfl, hv, hb⟩
  have A12 := Lib.hid (A11.out.step hv hb); clear A11 hv hb
  go_wp2_with fail
  refine (newVer1 w12 13 44 44 20 20 56 1 144 (by decide) (by decide) (by decide)).mono ?_
  rintro e w13 ⟨p13, rfl, hv, hb⟩
  have A13 := Lib.hid (A12.out.step hv hb); clear A12 hv hb
  go_wp2_with fail
  refine (newVer1 w13 14 48 48 22 22 68 1 174 (by decide) (by decide) (by decide)).mono ?_
  rintro e w14 ⟨p14, rfl, hv, hb⟩
  have A14 := Lib.hid (A13.out.step hv hb); clear A13 hv hb
  go_wp2_with fail
  refine (newVer1 w14 15 52 52 24 24 42 2 102 (by decide) (by decide) (by decide)).mono ?_
  rintro e w15 ⟨p15, rfl, hv, hb⟩
  have A15 := Lib.hid (A14.out.step hv hb); clear A14 hv hb
  go_wp2_with fail
  refine (newVer1 w15 16 64 64 14 14 56 2 140 (by decide) (by decide) (by decide)).mono ?_
  rintro e w16 ⟨p16, rfl, hv, hb⟩
  have A16 := Lib.hid (A15.out.step hv hb); clear A15 hv hb
  go_wp2_with fail
  refine (newVer1 w16 17 72 72 16 16 36 4 92 (by decide) (by decide) (by decide)).mono ?_
  rintro e w17 ⟨p17, rfl, hv, hb⟩
  have A17 := Lib.hid (A16.out.step hv hb); clear A16 hv hb
  go_wp2_with fail
  refine (newVer1 w17 18 80 80 18 18 48 4 114 (by decide) (by decide) (by decide)).mono ?_
  rintro e w18 ⟨p18, rfl, hv, hb⟩
  have A18 := Lib.hid (A17.out.step hv hb); clear A17 hv hb
  go_wp2_with fail
  refine (newVer1 w18 19 88 88 20 20 56 4 144 (by decide) (by decide) (by decide)).mono ?_
  rintro e w19 ⟨p19, rfl, hv, hb⟩
  have A19 := Lib.hid (A18.out.step hv hb); clear A18 hv hb
  go_wp2_with fail
  refine (newVer1 w19 20 96 96 22 22 68 4 174 (by decide) (by decide) (by decide)).mono ?_
  rintro e w20 ⟨p20, rfl, hv, hb⟩
  have A20 := Lib.hid (A19.out.step hv hb); clear A19 hv hb
  go_wp2_with fail
  refine (newVer1 w20 21 104 104 24 24 56 6 136 (by decide) (by decide) (by decide)).mono ?_
  rintro e w21 ⟨p21, rfl, hv, hb⟩
  have A21 := Lib.hid (A20.out.step hv hb); clear A20 hv hb
  go_wp2_with fail
  refine (newVer1 w21 22 120 120 18 18 68 6 175 (by decide) (by decide) (by decide)).mono ?_
  rintro e w22 ⟨p22, rfl, hv, hb⟩
  have A22 := Lib.hid (A21.out.step hv hb); clear A21 hv hb
  go_wp2_with fail
  refine (newVer1 w22 23 132 132 20 20 62 8 163 (by decide) (by decide) (by decide)).mono ?_
  rintro e w23 ⟨p23, rfl, hv, hb⟩
  have A23 := Lib.hid (A22.out.step hv hb); clear A22 hv hb
  go_wp2_with fail
  refine (newVer2 w23 24 144 144 22 22 62 8 156 2 155 (by decide) (by decide) (by decide) (by decide) (by decide)).mono ?_
  rintro e w24 ⟨p24, rfl, hv, hb⟩
  have A24 := Lib.hid (A23.out.step hv hb); clear A23 hv hb
  go_wp2_with fail
  refine (newVer1 w24 25 8 18 6 16 7 1 5 (by decide) (by decide) (by decide)).mono ?_
  rintro e w25 ⟨p25, rfl, hv, hb⟩
  have A25 := Lib.hid (A24.out.step hv hb); clear A24 hv hb
  go_wp2_with fail
  refine (newVer1 w25 26 8 32 6 14 11 1 10 (by decide) (by decide) (by decide)).mono ?_
  rintro e w26 ⟨p26, rfl, hv, hb⟩
  have A26 := Lib.hid (A25.out.step hv hb); clear A25 hv hb
  go_wp2_with fail
  refine (newVer1 w26 27 12 26 10 24 14 1 16 (by decide) (by decide) (by decide)).mono ?_
  rintro e w27 ⟨p27, rfl, hv, hb⟩
  have A27 := Lib.hid (A26.out.step hv hb); clear A26 hv hb
  go_wp2_with fail
  refine (newVer1 w27 28 12 36 10 16 18 1 22 (by decide) (by decide) (by decide)).mono ?_
  rintro e w28 ⟨p28, rfl, hv, hb⟩
  have A28 := Lib.hid (A27.out.step hv hb); clear A27 hv hb
  go_wp2_with fail
  refine (newVer1 w28 29 16 36 14 16 24 1 32 (by decide) (by decide) (by decide)).mono ?_
  rintro e w29 ⟨p29, rfl, hv, hb⟩
  have A29 := Lib.hid (A28.out.step hv hb); clear A28 hv hb
  go_wp2_with fail
  refine (newVer1 w29 30 16 48 14 22 28 1 49 (by decide) (by decide) (by decide)).mono ?_
  rintro e w30 ⟨p30, rfl, hv, hb⟩
  have A30 := Lib.hid (A29.out.step hv hb); clear A29 hv hb
  go_wp2_with fail
  refine (newVer1 w30 31 8 48 6 22 15 1 18 (by decide) (by decide) (by decide)).mono ?_
  rintro e w31 ⟨p31, rfl, hv, hb⟩
  have A31 := Lib.hid (A30.out.step hv hb); clear A30 hv hb
  go_wp2_with fail
  refine (newVer1 w31 32 8 64 6 14 18 1 24 (by decide) (by decide) (by decide)).mono ?_
  rintro e w32 ⟨p32, rfl, hv, hb⟩
  have A32 := Lib.hid (A31.out.step hv hb); clear A31 hv hb
  go_wp2_with fail
  refine (newVer1 w32 33 8 80 6 18 22 1 32 (by decide) (by decide) (by decide)).mono ?_
  rintro e w33 ⟨p33, rfl, hv, hb⟩
  have A33 := Lib.hid (A32.out.step hv hb); clear A32 hv hb
  go_wp2_with fail
  refine (newVer1 w33 34 8 96 6 22 28 1 38 (by decide) (by decide) (by decide)).mono ?_
  rintro e w34 ⟨p34, rfl, hv, hb⟩
  have A34 := Lib.hid (A33.out.step hv hb); clear A33 hv hb
  go_wp2_with fail
  refine (newVer1 w34 35 8 120 6 18 32 1 49 (by decide) (by decide) (by decide)).mono ?_
  rintro e w35 ⟨p35, rfl, hv, hb⟩
  have A35 := Lib.hid (A34.out.step hv hb); clear A34 hv hb
  go_wp2_with fail
  refine (newVer1 w35 36 8 144 6 22 36 1 63 (by decide) (by decide) (by decide)).mono ?_
  rintro e w36 ⟨p36, rfl, hv, hb⟩
  have A36 := Lib.hid (A35.out.step hv hb); clear A35 hv hb
  go_wp2_with fail
  refine (newVer1 w36 37 12 64 10 14 27 1 43 (by decide) (by decide) (by decide)).mono ?_
  rintro e w37 ⟨p37, rfl, hv, hb⟩
  have A37 := Lib.hid (A36.out.step hv hb); clear A36 hv hb
  go_wp2_with fail
  refine (newVer1 w37 38 12 88 10 20 36 1 64 (by decide) (by decide) (by decide)).mono ?_
  rintro e w38 ⟨p38, rfl, hv, hb⟩
  have A38 := Lib.hid (A37.out.step hv hb); clear A37 hv hb
  go_wp2_with fail
  refine (newVer1 w38 39 16 64 14 14 36 1 62 (by decide) (by decide) (by decide)).mono ?_
  rintro e w39 ⟨p39, rfl, hv, hb⟩
  have A39 := Lib.hid (A38.out.step hv hb); clear A38 hv hb
  go_wp2_with fail
  refine (newVer1 w39 40 20 36 18 16 28 1 44 (by decide) (by decide) (by decide)).mono ?_
  rintro e w40 ⟨p40, rfl, hv, hb⟩
  have A40 := Lib.hid (A39.out.step hv hb); clear A39 hv hb
  go_wp2_with fail
  refine (newVer1 w40 41 20 44 18 20 34 1 56 (by decide) (by decide) (by decide)).mono ?_
  rintro e w41 ⟨p41, rfl, hv, hb⟩
  have A41 := Lib.hid (A40.out.step hv hb); clear A40 hv hb
  go_wp2_with fail
  refine (newVer1 w41 42 20 64 18 14 42 1 84 (by decide) (by decide) (by decide)).mono ?_
  rintro e w42 ⟨p42, rfl, hv, hb⟩
  have A42 := Lib.hid (A41.out.step hv hb); clear A41 hv hb
  go_wp2_with fail
  refine (newVer1 w42 43 22 48 20 22 38 1 72 (by decide) (by decide) (by decide)).mono ?_
  rintro e w43 ⟨p43, rfl, hv, hb⟩
  have A43 := Lib.hid (A42.out.step hv hb); clear A42 hv hb
  go_wp2_with fail
  refine (newVer1 w43 44 24 48 22 22 41 1 80 (by decide) (by decide) (by decide)).mono ?_
  rintro e w44 ⟨p44, rfl, hv, hb⟩
  have A44 := Lib.hid (A43.out.step hv hb); clear A43 hv hb
  go_wp2_with fail
  refine (newVer1 w44 45 24 64 22 14 46 1 108 (by decide) (by decide) (by decide)).mono ?_
  rintro e w45 ⟨p45, rfl, hv, hb⟩
  have A45 := Lib.hid (A44.out.step hv hb); clear A44 hv hb
  go_wp2_with fail
  refine (newVer1 w45 46 26 40 24 18 38 1 70 (by decide) (by decide) (by decide)).mono ?_
  rintro e w46 ⟨p46, rfl, hv, hb⟩
  have A46 := Lib.hid (A45.out.step hv hb); clear A45 hv hb
  go_wp2_with fail
  refine (newVer1 w46 47 26 48 24 22 42 1 90 (by decide) (by decide) (by decide)).mono ?_
  rintro e w47 ⟨p47, rfl, hv, hb⟩
  have A47 := Lib.hid (A46.out.step hv hb); clear A46 hv hb
  go_wp2_with fail
  refine (newVer1 w47 48 26 64 24 14 50 1 118 (by decide) (by decide) (by decide)).mono ?_
  rintro e w48 ⟨p48, rfl, hv, hb⟩
  have A48 := Lib.hid (A47.out.step hv hb); clear A47 hv hb
  go_wp2
  go_ret
  exact vers_fin w w48 p1 p2 p3 p4 p5 p6 p7 p8 p9 p10 p11 p12 p13 p14 p15 p16 p17 p18 p19 p20 p21 p22 p23 p24 p25 p26 p27 p28 p29 p30 p31 p32 p33 p34 p35 p36 p37 p38 p39 p40 p41 p42 p43 p44 p45 p46 p47 p48 A48.out
end Go.Proofs.YtcnallabiffemaaGreatDoor
