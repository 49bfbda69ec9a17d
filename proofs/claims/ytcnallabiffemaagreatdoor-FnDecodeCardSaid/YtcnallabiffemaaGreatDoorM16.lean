import Derived.Deep.Cut
import Derived.Deep.CutRange
import Derived.Test.YtcnallabiffemaaGreatDoorM06
import Derived.Test.YtcnallabiffemaaGreatDoorM15
/- Part of the proof that a Data Matrix symbol of a text, damaged at most to half of its check codewords in each block, is decoded to the text (FnDecode): texts Rm. -/
set_option linter.unusedVariables false
set_option linter.unusedSimpArgs false
namespace Go.Proofs.YtcnallabiffemaaGreatDoor
open Go.RowKit (wrap32 wrap64 intOf Hid Below)
open Zx

theorem bmWs_read {w w' : World} {p b W H : Nat} {ws : Nat → Nat} (h : Bm w p b W H ws) {S : Nat → Prop} (hb : But S w w') (h1 : ¬ S p) (h2 : ¬ S b) : Bm w' p b W H ws :=
  ⟨hb.row h.box h1, hb.row h.row h2, h.lt, h.w1, h.h1, h.ne⟩

/-- the parser: the mapping's bits m, the modules read V; blocks: t the parser, pm bm the mapping, pr br the modules read -/
structure Ps (w : World) (t pm bm pr br pv R C : Nat) (wm : Nat → Nat) (V : Nat) : Prop where
  c0 : w.cell? ⟨t, 0, none⟩ = some (pt pm)
  c1 : w.cell? ⟨t, 1, none⟩ = some (pt pr)
  c2 : w.cell? ⟨t, 2, none⟩ = some (pt pv)
  mm : Bm w pm bm C R wm
  rd : ∃ ws, Bm w pr br C R ws ∧ ∀ x y, x < C → y < R → bmAt C ws x y = V.testBit (y * C + x)
  lt : t < w.heap.size
  ne : t ≠ br ∧ pm ≠ br ∧ bm ≠ br ∧ pr ≠ br

theorem Ps.but {w w' : World} {t pm bm pr br pv R C : Nat} {wm : Nat → Nat} {V : Nat} (h : Ps w t pm bm pr br pv R C wm V) {S : Nat → Prop} (hb : But S w w') (h1 : ¬ S t) (h2 : ¬ S pm) (h3 : ¬ S bm) (h4 : ¬ S pr) (h5 : ¬ S br) : Ps w' t pm bm pr br pv R C wm V := by
  obtain ⟨ws, hr, ha⟩ := h.rd
  exact ⟨(hb.cell (p := ⟨t, 0, none⟩) h.lt h1).trans h.c0, (hb.cell (p := ⟨t, 1, none⟩) h.lt h1).trans h.c1, (hb.cell (p := ⟨t, 2, none⟩) h.lt h1).trans h.c2, bmWs_read h.mm hb h2 h3, ⟨ws, bmWs_read hr hb h4 h5, ha⟩, Nat.lt_of_lt_of_le h.lt hb.size, h.ne⟩

/-- a bit of the mapping at a place -/
def mbit (C : Nat) (wm : Nat → Nat) (p : Pl) : Bool := bmAt C wm p.2.toNat p.1.toNat

theorem testBit_or_pow (V a b : Nat) : (V ||| 2 ^ a).testBit b = (V.testBit b || decide (b = a)) := by
  rw [Nat.testBit_or, Nat.testBit_two_pow]
  congr 1
  by_cases h1 : a = b
  · subst h1; simp
  · rw [decide_eq_false h1, decide_eq_false (fun h => h1 h.symm)]

theorem ix_nat {C : Nat} {p : Pl} (h1 : 0 ≤ p.1) (h2 : 0 ≤ p.2) : ix C p = p.1.toNat * C + p.2.toNat := by
  unfold ix
  obtain ⟨a, ha⟩ := Int.eq_ofNat_of_zero_le h1
  obtain ⟨b, hb⟩ := Int.eq_ofNat_of_zero_le h2
  rw [ha, hb]
  have : ((a : Int) * (C : Int) + (b : Int)) = ((a * C + b : Nat) : Int) := by simp
  rw [this]; rfl
theorem ix_inj {C a b c d : Nat} (h1 : b < C) (h2 : d < C) (h : a * C + b = c * C + d) : a = c ∧ b = d := by
  rcases Nat.lt_trichotomy a c with h3 | h3 | h3
  · have := Nat.mul_le_mul_right C h3; rw [Nat.succ_mul] at this; omega
  · subst h3; exact ⟨rfl, by omega⟩
  · have := Nat.mul_le_mul_right C h3; rw [Nat.succ_mul] at this; omega

theorem setBmI (w : World) (p b W H x y : Nat) (xi yi : Int) (ws : Nat → Nat) (h : Bm w p b W H ws) (hx : x < W) (hy : y < H) (ex : xi = x) (ey : yi = y) :
    Calls Tryz.prog 27 #[pt p, .int .i64 xi, .int .i64 yi] w fun e w' => e = .returned (.tuple #[]) ∧
      Bm w' p b W H (fun i => if i = y * ((W + 31) / 32) + x / 32 then ws i ||| 2 ^ (x % 32) else ws i) ∧ But (· = b) w w' ∧ w'.heap.size = w.heap.size := by
  subst ex ey; exact setBm w p b W H x y ws h hx hy
theorem getBmI (w : World) (p b W H x y : Nat) (xi yi : Int) (ws : Nat → Nat) (h : Bm w p b W H ws) (hx : x < W) (hy : y < H) (ex : xi = x) (ey : yi = y) :
    Calls Tryz.prog 42 #[pt p, .int .i64 xi, .int .i64 yi] w fun e w' => e = .returned (.bool (bmAt W ws x y)) ∧ w = w' := by
  subst ex ey; exact getBm w p b W H x y ws h hx hy

theorem Ps.mark {w w' : World} {t pm bm pr br pv R C : Nat} {wm : Nat → Nat} {V : Nat} (h : Ps w t pm bm pr br pv R C wm V) {x y : Nat} (hx : x < C) (hy : y < R) {ws : Nat → Nat}
    (hw : ∀ x y, x < C → y < R → bmAt C ws x y = V.testBit (y * C + x)) (hb : But (· = br) w w')
    (hr : Bm w' pr br C R (fun i => if i = y * ((C + 31) / 32) + x / 32 then ws i ||| 2 ^ (x % 32) else ws i)) : Ps w' t pm bm pr br pv R C wm (V ||| 2 ^ ix C ((y : Int), (x : Int))) := by
  have n1 := h.ne.1
  have n2 := h.ne.2.1
  have n3 := h.ne.2.2.1
  refine ⟨(hb.cell (p := ⟨t, 0, none⟩) h.lt n1).trans h.c0, (hb.cell (p := ⟨t, 1, none⟩) h.lt n1).trans h.c1, (hb.cell (p := ⟨t, 2, none⟩) h.lt n1).trans h.c2, bmWs_read h.mm hb n2 n3, ⟨_, hr, fun x' y' hx' hy' => ?_⟩, Nat.lt_of_lt_of_le h.lt hb.size, h.ne⟩
  rw [bmAt_set _ _ _ _ _ _ hx hx', hw x' y' hx' hy', ix_nat (Int.natCast_nonneg _) (Int.natCast_nonneg _), testBit_or_pow]
  congr 1
  show decide (x' = x ∧ y' = y) = decide (y' * C + x' = y * C + x)
  by_cases h1 : x' = x ∧ y' = y
  · rw [decide_eq_true h1, decide_eq_true (by rw [h1.1, h1.2])]
  · rw [decide_eq_false h1, decide_eq_false]
    intro h2
    have := ix_inj hx' hx h2
    exact h1 ⟨this.2, this.1⟩

/-- a module is read: its bit is handed back, and it is marked -/
theorem readMod (w : World) (t pm bm pr br pv R C : Nat) (wm : Nat → Nat) (V : Nat) (row col : Int) (h : Ps w t pm bm pr br pv R C wm V)
    (hr : -100 ≤ row ∧ row ≤ 1000) (hc : -100 ≤ col ∧ col ≤ 1000) (hin : inR R C (adj R C (row, col)) = true) :
    Calls Tryz.prog 162 #[pt t, .int .i64 row, .int .i64 col, .int .i64 R, .int .i64 C] w fun e w' => e = .returned (.bool (mbit C wm (adj R C (row, col)))) ∧
      Ps w' t pm bm pr br pv R C wm (V ||| 2 ^ ix C (adj R C (row, col))) ∧ But (· = br) w w' ∧ w'.heap.size = w.heap.size := by
  have hR := h.mm.h1
  have hC := h.mm.w1
  have HH := Lib.hid h
  have c0 := h.c0
  have c1 := h.c1
  clear h
  obtain ⟨q, hq⟩ : ∃ q, adj R C (row, col) = q := ⟨_, rfl⟩
  rw [hq] at hin ⊢
  unfold inR at hin
  have hin' := of_decide_eq_true hin
  obtain ⟨y, x⟩ := q
  simp only at hin'
  obtain ⟨i1, i2, i3, i4⟩ := hin'
  clear hin
  obtain ⟨yn, rfl⟩ := Int.eq_ofNat_of_zero_le i1
  obtain ⟨xn, rfl⟩ := Int.eq_ofNat_of_zero_le i3
  have aR := and_i64 (R + 4) 7 (by omega) (by decide)
  have aC := and_i64 (C + 4) 7 (by omega) (by decide)
  rw [show (R + 4) &&& 7 = (R + 4) % 8 from Nat.and_two_pow_sub_one_eq_mod (R + 4) 3, show (((R + 4 : Nat)) : Int) = (R : Int) + 4 by omega, show ((7 : Nat) : Int) = 7 from rfl] at aR
  rw [show (C + 4) &&& 7 = (C + 4) % 8 from Nat.and_two_pow_sub_one_eq_mod (C + 4) 3, show (((C + 4 : Nat)) : Int) = (C : Int) + 4 by omega, show ((7 : Nat) : Int) = 7 from rfl] at aC
  unfold adj at hq
  simp only at hq
  go_enter Tryz.func162, Tryz.ntmps162
  by_cases h1 : row < 0
  · rw [if_pos h1] at hq
    by_cases h2 : col + (4 - ((R : Int) + 4) % 8) < 0
    · rw [if_pos h2] at hq
      have e1 := congrArg Prod.fst hq
      have e2 := congrArg Prod.snd hq
      simp only at e1 e2
      clear hq
      have g1 : ¬ ((R : Int) ≤ row + (R : Int) + (4 - ((C : Int) + 4) % 8)) := by omega
      have n4 := HH.out.ne.2.2.2
      obtain ⟨ws, hbm, hag⟩ := HH.out.rd
      have HBM := Lib.hid hbm; clear hbm
      have HAG := Lib.hid hag; clear hag
      go_wp2_with fail
      refine (setBmI w pr br C R xn yn _ _ ws HBM.out (by omega) (by omega) (by omega) (by omega)).mono ?_
      rintro e w' ⟨rfl, hb1, hb2, hb3⟩
      have M := Lib.hid (HH.out.mark (x := xn) (y := yn) (by omega) (by omega) HAG.out hb2 hb1)
      have d0 := M.out.c0
      have HB2 := Lib.hid hb2; clear hb2 hb1
      go_wp2_with fail
      refine (getBmI w' pm bm C R xn yn _ _ wm M.out.mm (by omega) (by omega) (by omega) (by omega)).mono ?_
      rintro e w2 ⟨rfl, rfl⟩
      go_wp2
      go_ret
      exact ⟨rfl, M.out, HB2.out, hb3⟩
    · rw [if_neg h2] at hq
      have e1 := congrArg Prod.fst hq
      have e2 := congrArg Prod.snd hq
      simp only at e1 e2
      clear hq
      have g1 : ¬ ((R : Int) ≤ row + (R : Int)) := by omega
      have n4 := HH.out.ne.2.2.2
      obtain ⟨ws, hbm, hag⟩ := HH.out.rd
      have HBM := Lib.hid hbm; clear hbm
      have HAG := Lib.hid hag; clear hag
      go_wp2_with fail
      refine (setBmI w pr br C R xn yn _ _ ws HBM.out (by omega) (by omega) (by omega) (by omega)).mono ?_
      rintro e w' ⟨rfl, hb1, hb2, hb3⟩
      have M := Lib.hid (HH.out.mark (x := xn) (y := yn) (by omega) (by omega) HAG.out hb2 hb1)
      have d0 := M.out.c0
      have HB2 := Lib.hid hb2; clear hb2 hb1
      go_wp2_with fail
      refine (getBmI w' pm bm C R xn yn _ _ wm M.out.mm (by omega) (by omega) (by omega) (by omega)).mono ?_
      rintro e w2 ⟨rfl, rfl⟩
      go_wp2
      go_ret
      exact ⟨rfl, M.out, HB2.out, hb3⟩
  · rw [if_neg h1] at hq
    by_cases h2 : col < 0
    · rw [if_pos h2] at hq
      have e1 := congrArg Prod.fst hq
      have e2 := congrArg Prod.snd hq
      simp only at e1 e2
      clear hq
      have g1 : ¬ ((R : Int) ≤ row + (4 - ((C : Int) + 4) % 8)) := by omega
      have n4 := HH.out.ne.2.2.2
      obtain ⟨ws, hbm, hag⟩ := HH.out.rd
      have HBM := Lib.hid hbm; clear hbm
      have HAG := Lib.hid hag; clear hag
      go_wp2_with fail
      refine (setBmI w pr br C R xn yn _ _ ws HBM.out (by omega) (by omega) (by omega) (by omega)).mono ?_
      rintro e w' ⟨rfl, hb1, hb2, hb3⟩
      have M := Lib.hid (HH.out.mark (x := xn) (y := yn) (by omega) (by omega) HAG.out hb2 hb1)
      have d0 := M.out.c0
      have HB2 := Lib.hid hb2; clear hb2 hb1
      go_wp2_with fail
      refine (getBmI w' pm bm C R xn yn _ _ wm M.out.mm (by omega) (by omega) (by omega) (by omega)).mono ?_
      rintro e w2 ⟨rfl, rfl⟩
      go_wp2
      go_ret
      exact ⟨rfl, M.out, HB2.out, hb3⟩
    · rw [if_neg h2] at hq
      have e1 := congrArg Prod.fst hq
      have e2 := congrArg Prod.snd hq
      simp only at e1 e2
      clear hq
      have g1 : ¬ ((R : Int) ≤ row) := by omega
      have n4 := HH.out.ne.2.2.2
      obtain ⟨ws, hbm, hag⟩ := HH.out.rd
      have HBM := Lib.hid hbm; clear hbm
      have HAG := Lib.hid hag; clear hag
      go_wp2_with fail
      refine (setBmI w pr br C R xn yn _ _ ws HBM.out (by omega) (by omega) (by omega) (by omega)).mono ?_
      rintro e w' ⟨rfl, hb1, hb2, hb3⟩
      have M := Lib.hid (HH.out.mark (x := xn) (y := yn) (by omega) (by omega) HAG.out hb2 hb1)
      have d0 := M.out.c0
      have HB2 := Lib.hid hb2; clear hb2 hb1
      go_wp2_with fail
      refine (getBmI w' pm bm C R xn yn _ _ wm M.out.mm (by omega) (by omega) (by omega) (by omega)).mono ?_
      rintro e w2 ⟨rfl, rfl⟩
      go_wp2
      go_ret
      exact ⟨rfl, M.out, HB2.out, hb3⟩
end Go.Proofs.YtcnallabiffemaaGreatDoor
