import Derived.Handy
import Derived.Deep.Cut
import Derived.Deep.CutRange
import Derived.Test.YtcnallabiffemaaGreatDoorM02
import Derived.Test.YtcnallabiffemaaGreatDoorM03
import Derived.Test.YtcnallabiffemaaGreatDoorM06
import Derived.Test.YtcnallabiffemaaGreatDoorM12
import Derived.Test.YtcnallabiffemaaGreatDoorM16
import Derived.Test.YtcnallabiffemaaGreatDoorM20
/- Part of the proof that a Data Matrix symbol of a text, damaged at most to half of its check codewords in each block, is decoded to the text (FnDecode): texts Ex Ey Ez Sy U1 U2 T2. -/
set_option linter.unusedVariables false
set_option linter.unusedSimpArgs false
namespace Zx
/-- the cells (region row a, row b in it; region column c, column d in it) that are done when the loops stand at i, j, k, l -/
def dn (a b c d i j k l : Nat) : Prop := a < i ∨ (a = i ∧ (c < j ∨ (c = j ∧ (b < k ∨ (b = k ∧ d < l)))))
instance (a b c d i j k l : Nat) : Decidable (dn a b c d i j k l) := by unfold dn; infer_instance
theorem dn_zero (a b c d : Nat) : ¬ dn a b c d 0 0 0 0 := by unfold dn; omega
theorem dn_step (a b c d i j k l : Nat) : dn a b c d i j k (l + 1) ↔ dn a b c d i j k l ∨ (a = i ∧ b = k ∧ c = j ∧ d = l) := by unfold dn; omega
theorem dn_l (a b c d i j k n : Nat) (h : d < n) : dn a b c d i j k n ↔ dn a b c d i j (k + 1) 0 := by unfold dn; omega
theorem dn_k (a b c d i j n : Nat) (h : b < n) : dn a b c d i j n 0 ↔ dn a b c d i (j + 1) 0 0 := by unfold dn; omega
theorem dn_j (a b c d i n : Nat) (h : c < n) : dn a b c d i n 0 0 ↔ dn a b c d (i + 1) 0 0 0 := by unfold dn; omega
theorem dn_i (a b c d n : Nat) (h : a < n) : dn a b c d n 0 0 0 := by unfold dn; omega
end Zx

namespace Go.Proofs.YtcnallabiffemaaGreatDoor
open Go.RowKit (wrap32 wrap64 intOf Hid Below)
open Zx

theorem rowsC (w : World) (p : Nat) (v : Ver) (h : VerOk w p v) : Calls Tryz.prog 158 #[pt p] w fun e w' => e = .returned (.int .i64 v.rows) ∧ w = w' := by
  obtain ⟨⟨eb, h0, h1, h2, h3, h4, h5, h6, h7⟩, h8⟩ := h
  clear h7
  go_enter Tryz.func158, Tryz.ntmps158
  go_wp2
  go_ret
  exact ⟨rfl, rfl⟩

theorem colsC (w : World) (p : Nat) (v : Ver) (h : VerOk w p v) : Calls Tryz.prog 159 #[pt p] w fun e w' => e = .returned (.int .i64 v.cols) ∧ w = w' := by
  obtain ⟨⟨eb, h0, h1, h2, h3, h4, h5, h6, h7⟩, h8⟩ := h
  clear h7
  go_enter Tryz.func159, Tryz.ntmps159
  go_wp2
  go_ret
  exact ⟨rfl, rfl⟩

theorem rrC (w : World) (p : Nat) (v : Ver) (h : VerOk w p v) : Calls Tryz.prog 160 #[pt p] w fun e w' => e = .returned (.int .i64 v.rr) ∧ w = w' := by
  obtain ⟨⟨eb, h0, h1, h2, h3, h4, h5, h6, h7⟩, h8⟩ := h
  clear h7
  go_enter Tryz.func160, Tryz.ntmps160
  go_wp2
  go_ret
  exact ⟨rfl, rfl⟩

theorem rcC (w : World) (p : Nat) (v : Ver) (h : VerOk w p v) : Calls Tryz.prog 161 #[pt p] w fun e w' => e = .returned (.int .i64 v.rc) ∧ w = w' := by
  obtain ⟨⟨eb, h0, h1, h2, h3, h4, h5, h6, h7⟩, h8⟩ := h
  clear h7
  go_enter Tryz.func161, Tryz.ntmps161
  go_wp2
  go_ret
  exact ⟨rfl, rfl⟩
end Go.Proofs.YtcnallabiffemaaGreatDoor
namespace Go.Proofs.YtcnallabiffemaaGreatDoor
open Go.RowKit (wrap32 wrap64 intOf Hid Below)
open Zx

/-- the copied matrix when the loops stand at i, j, k, l -/
def Cpy (w : World) (W rr rc CC RR : Nat) (ws : Nat → Nat) (i j k l : Nat) (wx : World) : Prop :=
  ∃ wn, Bm wx (w.heap.size + 1) w.heap.size CC RR wn ∧ Below w.heap.size w wx ∧
    ∀ x y, x < CC → y < RR → bmAt CC wn x y = (decide (dn (y / rr) (y % rr) (x / rc) (x % rc) i j k l) && bmAt W ws (x + 1 + 2 * (x / rc)) (y + 1 + 2 * (y / rr)))

theorem divmod_iff {x j l n : Nat} (hl : l < n) : (x / n = j ∧ x % n = l) ↔ x = j * n + l := by
  constructor
  · rintro ⟨rfl, rfl⟩; rw [Nat.mul_comm]; exact (Nat.div_add_mod x n).symm
  · rintro rfl
    refine ⟨?_, ?_⟩
    · rw [Nat.mul_comm, Nat.mul_add_div (by omega), Nat.div_eq_of_lt hl, Nat.add_zero]
    · rw [Nat.mul_comm, Nat.mul_add_mod, Nat.mod_eq_of_lt hl]

theorem dn_at {x y i j k l rr rc : Nat} (hk : k < rr) (hl : l < rc) :
    decide (dn (y / rr) (y % rr) (x / rc) (x % rc) i j k (l + 1)) = (decide (dn (y / rr) (y % rr) (x / rc) (x % rc) i j k l) || decide (x = j * rc + l ∧ y = i * rr + k)) := by
  rw [← Bool.decide_or]
  refine decide_eq_decide.2 ?_
  rw [dn_step, ← divmod_iff hl, ← divmod_iff hk]
  constructor
  · rintro (h | ⟨a, b, c, d⟩)
    · exact .inl h
    · exact .inr ⟨⟨c, d⟩, a, b⟩
  · rintro (h | ⟨⟨c, d⟩, a, b⟩)
    · exact .inl h
    · exact .inr ⟨a, b, c, d⟩

set_option maxRecDepth 100000 in
set_option maxHeartbeats 2000000 in
theorem extractC (w : World) (pv p b W H nR nC : Nat) (v : Ver) (ws : Nat → Nat) (hv : VerOk w pv v) (h : Bm w p b W H ws) (hH : v.rows = H) (hW : v.cols = W) (h1 : nR * (v.rr + 2) = H) (h2 : nC * (v.rc + 2) = W)
    (h3 : H / v.rr = nR) (h4 : W / v.rc = nC) (h5 : 0 < v.rr) (h6 : 0 < v.rc) (h7 : 0 < nR) (h8 : 0 < nC) :
    Calls Tryz.prog 80 #[pt pv, pt p] w fun e w' => e = .returned (.tuple #[pt (w.heap.size + 1), .nilIface]) ∧ Below w.heap.size w w' ∧
      ∃ wn, Bm w' (w.heap.size + 1) w.heap.size (nC * v.rc) (nR * v.rr) wn ∧ ∀ x y, x < nC * v.rc → y < nR * v.rr → bmAt (nC * v.rc) wn x y = bmAt W ws (x + 1 + 2 * (x / v.rc)) (y + 1 + 2 * (y / v.rr)) := by
  have HV := Lib.hid hv; clear hv
  have HB := Lib.hid h
  have hw1 := h.w1
  have hh1 := h.h1
  have hbl := h.lt'
  clear h
  subst hH hW
  have b1 := int_nf (a := (v.rows : Int)) (b := (v.rows : Int)) rfl
  have q1 : ((v.rows : Int) / (v.rr : Int)) = (nR : Int) := by rw [← h3]; exact (Int.natCast_ediv _ _).symm
  have q2 : ((v.cols : Int) / (v.rc : Int)) = (nC : Int) := by rw [← h4]; exact (Int.natCast_ediv _ _).symm
  have m1 : nR * v.rr ≤ nR * (v.rr + 2) := Nat.mul_le_mul_left _ (by omega)
  have m2 : nC * v.rc ≤ nC * (v.rc + 2) := Nat.mul_le_mul_left _ (by omega)
  have m3 : nR ≤ nR * (v.rr + 2) := Nat.le_mul_of_pos_right _ (by omega)
  have m4 : nC ≤ nC * (v.rc + 2) := Nat.le_mul_of_pos_right _ (by omega)
  have n1 : nR ≤ 1000 := by omega
  have n2 : nC ≤ 1000 := by omega
  have p1 : ((nR : Int) * (v.rr : Int)) = ((nR * v.rr : Nat) : Int) := by simp
  have p2 : ((nC : Int) * (v.rc : Int)) = ((nC * v.rc : Nat) : Int) := by simp
  have l1 : 1 ≤ nR * v.rr := Nat.mul_pos h7 h5
  have l2 : 1 ≤ nC * v.rc := Nat.mul_pos h8 h6
  obtain ⟨RR, hRR⟩ : ∃ RR, nR * v.rr = RR := ⟨_, rfl⟩
  obtain ⟨CC, hCC⟩ : ∃ CC, nC * v.rc = CC := ⟨_, rfl⟩
  rw [hRR] at p1 l1 m1
  rw [hCC] at p2 l2 m2
  have vr : v.rr ≤ nR * v.rr := Nat.le_mul_of_pos_left _ h7
  have vc : v.rc ≤ nC * v.rc := Nat.le_mul_of_pos_left _ h8
  rw [hRR] at vr
  rw [hCC] at vc
  have k1 : RR ≤ 1000 := by omega
  have k2 : CC ≤ 1000 := by omega
  have M1 := Lib.hid m1; clear m1 m2 m3 m4
  go_enter Tryz.func80, Tryz.ntmps80
  go_wp2_with fail
  refine (rowsC w pv v HV.out).mono ?_
  rintro e w' ⟨rfl, rfl⟩
  go_wp2_with fail
  refine (colsC w pv v HV.out).mono ?_
  rintro e w' ⟨rfl, rfl⟩
  go_wp2_with fail
  refine (hgtC w p b _ _ ws HB.out).mono ?_
  rintro e w' ⟨rfl, rfl⟩
  go_wp2_with fail
  refine (rrC w pv v HV.out).mono ?_
  rintro e w' ⟨rfl, rfl⟩
  go_wp2_with fail
  refine (rcC w pv v HV.out).mono ?_
  rintro e w' ⟨rfl, rfl⟩
  go_wp2_with fail

  refine (newBm w CC RR ⟨l2, k2⟩ ⟨l1, k1⟩).mono ?_
  rintro e w1 ⟨rfl, hbm, hsz, hb0⟩
  have c0 : Cpy w v.cols v.rr v.rc CC RR ws 0 0 0 0 w1 := ⟨_, hbm, hb0, fun x y _ _ => by rw [bmAt_zero, decide_eq_false (dn_zero _ _ _ _)]; rfl⟩
  have C0 := Lib.hid c0; clear c0 hbm hb0
  go_wp2_with fail
  go_loopw [16] (fun s16 wr => ∃ i : Nat, i ≤ nR ∧ s16 = .int .i64 i ∧ Cpy w v.cols v.rr v.rc CC RR ws i 0 0 0 wr) (fun s16 _ => nR - (intOf s16).toNat)
  case atStart => exact ⟨0, Nat.zero_le _, rfl, C0.out⟩
  case round =>
    obtain ⟨i, hi, rfl, hc⟩ := hrel
    have HC := Lib.hid hc; clear hc
    by_cases hin : i < nR
    · have w1 : i * v.rr ≤ nR * v.rr := Nat.mul_le_mul_right _ hi
      have p3 : ((i : Int) * (v.rr : Int)) = ((i * v.rr : Nat) : Int) := by simp
      obtain ⟨ir, hir⟩ : ∃ ir, i * v.rr = ir := ⟨_, rfl⟩
      rw [hir] at w1 p3
      have w2 : ir ≤ 1000 := by omega
      go_wp2_with fail
      go_loopw [18] (fun s18 wr => ∃ j : Nat, j ≤ nC ∧ s18 = .int .i64 j ∧ Cpy w v.cols v.rr v.rc CC RR ws i j 0 0 wr) (fun s18 _ => nC - (intOf s18).toNat)
      case atStart => exact ⟨0, Nat.zero_le _, rfl, HC.out⟩
      case round =>
        obtain ⟨j, hj, rfl, hc⟩ := hrel
        have HC := Lib.hid hc; clear hc
        by_cases hjn : j < nC
        · have w3 : j * v.rc ≤ nC * v.rc := Nat.mul_le_mul_right _ hj
          have p4 : ((j : Int) * (v.rc : Int)) = ((j * v.rc : Nat) : Int) := by simp
          obtain ⟨jc, hjc⟩ : ∃ jc, j * v.rc = jc := ⟨_, rfl⟩
          rw [hjc] at w3 p4
          have w4 : jc ≤ 1000 := by omega
          go_wp2_with fail
          go_loopw [20] (fun s20 wr => ∃ k : Nat, k ≤ v.rr ∧ s20 = .int .i64 k ∧ Cpy w v.cols v.rr v.rc CC RR ws i j k 0 wr) (fun s20 _ => v.rr - (intOf s20).toNat)
          case atStart => exact ⟨0, Nat.zero_le _, rfl, HC.out⟩
          case round =>
            obtain ⟨k, hk, rfl, hc⟩ := hrel
            have HC := Lib.hid hc; clear hc
            by_cases hkn : k < v.rr
            · have w5 : i * (v.rr + 2) = ir + 2 * i := by rw [Nat.mul_add, hir]; omega
              have p5 : ((i : Int) * ((v.rr : Int) + 2)) = (ir : Int) + 2 * (i : Int) := by
                have : ((i * (v.rr + 2) : Nat) : Int) = ((ir + 2 * i : Nat) : Int) := by rw [w5]
                simpa using this
              have w7 : (i + 1) * (v.rr + 2) ≤ nR * (v.rr + 2) := Nat.mul_le_mul_right _ hin
              rw [Nat.add_mul, Nat.one_mul, w5, h1] at w7
              go_wp2_with fail
              go_loopw [23] (fun s23 wr => ∃ l : Nat, l ≤ v.rc ∧ s23 = .int .i64 l ∧ Cpy w v.cols v.rr v.rc CC RR ws i j k l wr) (fun s23 _ => v.rc - (intOf s23).toNat)
              case atStart => exact ⟨0, Nat.zero_le _, rfl, HC.out⟩
              case round =>
                obtain ⟨l, hl, rfl, hc⟩ := hrel
                obtain ⟨wn, hbm, hbl2, hag⟩ := hc
                have HBM := Lib.hid hbm; clear hbm
                have HBL := Lib.hid hbl2; clear hbl2
                have HAG := Lib.hid hag; clear hag
                by_cases hln : l < v.rc
                · have w6 : j * (v.rc + 2) = jc + 2 * j := by rw [Nat.mul_add, hjc]; omega
                  have p6 : ((j : Int) * ((v.rc : Int) + 2)) = (jc : Int) + 2 * (j : Int) := by
                    have : ((j * (v.rc + 2) : Nat) : Int) = ((jc + 2 * j : Nat) : Int) := by rw [w6]
                    simpa using this
                  have w8 : (j + 1) * (v.rc + 2) ≤ nC * (v.rc + 2) := Nat.mul_le_mul_right _ hjn
                  rw [Nat.add_mul, Nat.one_mul, w6, h2] at w8
                  have w9 : (i + 1) * v.rr ≤ nR * v.rr := Nat.mul_le_mul_right _ hin
                  have w10 : (j + 1) * v.rc ≤ nC * v.rc := Nat.mul_le_mul_right _ hjn
                  rw [Nat.add_mul, Nat.one_mul, hir, hRR] at w9
                  rw [Nat.add_mul, Nat.one_mul, hjc, hCC] at w10
                  have src : ∀ x y, x = j * v.rc + l ∧ y = i * v.rr + k → bmAt v.cols ws (x + 1 + 2 * (x / v.rc)) (y + 1 + 2 * (y / v.rr)) = bmAt v.cols ws (jc + 2 * j + 1 + l) (ir + 2 * i + 1 + k) := by
                    rintro x y ⟨hx, hy⟩
                    have dx := (divmod_iff hln).2 hx
                    have dy := (divmod_iff hkn).2 hy
                    rw [dx.1, dy.1, hx, hy, hjc, hir]
                    congr 1 <;> omega
                  have SRC := Lib.hid src; clear src
                  have BO := Lib.hid (bmWs_read HB.out (But.ofAll (S := fun _ => False) HBL.out) id id)
                  go_wp2_with fail
                  refine (getBmI wr p b v.cols v.rows (jc + 2 * j + 1 + l) (ir + 2 * i + 1 + k) _ _ ws BO.out (by omega) (by omega) (by omega) (by omega)).mono ?_
                  rintro e w' ⟨rfl, hw⟩
                  obtain rfl := hw
                  obtain ⟨bb, hbb⟩ : ∃ bb, bmAt v.cols ws (jc + 2 * j + 1 + l) (ir + 2 * i + 1 + k) = bb := ⟨_, rfl⟩
                  rw [hbb]
                  have HBB := Lib.hid hbb; clear hbb
                  cases bb
                  · have c1 : Cpy w v.cols v.rr v.rc CC RR ws i j k (l + 1) wr := ⟨wn, HBM.out, HBL.out, fun x y hx hy => by
                      rw [HAG.out x y hx hy, dn_at hkn hln]
                      by_cases hxy : x = j * v.rc + l ∧ y = i * v.rr + k
                      · rw [SRC.out x y hxy, HBB.out, Bool.and_false, Bool.and_false]
                      · rw [decide_eq_false hxy, Bool.or_false]⟩
                    have C1 := Lib.hid c1; clear c1
                    go_wp2
                    go_roundw
                    case rel => exact ⟨l + 1, by omega, by go_num, C1.out⟩
                    case measure => simp [intOf]; omega
                  · go_wp2_with fail
                    refine (setBmI wr (w.heap.size + 1) w.heap.size CC RR (jc + l) (ir + k) _ _ wn HBM.out (by omega) (by omega) (by omega) (by omega)).mono ?_
                    rintro e w2 ⟨rfl, hb2, hb3, hb4⟩
                    have c1 : Cpy w v.cols v.rr v.rc CC RR ws i j k (l + 1) w2 := ⟨_, hb2, HBL.out.trans (hb3.below HBL.out.size (fun k hk => by omega)), fun x y hx hy => by
                      rw [bmAt_set _ _ _ _ _ _ (by omega) hx, HAG.out x y hx hy, dn_at hkn hln, hjc, hir]
                      by_cases hxy : x = jc + l ∧ y = ir + k
                      · have := SRC.out x y (by rw [hjc, hir]; exact hxy)
                        rw [this, HBB.out, decide_eq_true hxy, Bool.or_true, Bool.or_true]; rfl
                      · rw [decide_eq_false hxy, Bool.or_false, Bool.or_false]⟩
                    have C1 := Lib.hid c1; clear c1 hb2 hb3 hb4
                    go_wp2
                    go_roundw
                    case rel => exact ⟨l + 1, by omega, by go_num, C1.out⟩
                    case measure => simp [intOf]; omega
                · obtain rfl : l = v.rc := by omega
                  have HC2 : Cpy w v.cols v.rr v.rc CC RR ws i j (k + 1) 0 wr := ⟨wn, HBM.out, HBL.out, fun x y hx hy => by
                    rw [HAG.out x y hx hy]
                    congr 1
                    exact decide_eq_decide.2 (dn_l _ _ _ _ _ _ _ _ (Nat.mod_lt _ h6))⟩
                  have HC3 := Lib.hid HC2; clear HC2
                  go_wp2
                  go_roundw
                  case rel => exact ⟨k + 1, by omega, by go_num, HC3.out⟩
                  case measure => simp [intOf]; omega
            · obtain rfl : k = v.rr := by omega
              have HC2 : Cpy w v.cols v.rr v.rc CC RR ws i (j + 1) 0 0 wr := by
                obtain ⟨wn, hbm, hbl2, hag⟩ := HC.out
                refine ⟨wn, hbm, hbl2, fun x y hx hy => ?_⟩
                rw [hag x y hx hy]
                congr 1
                exact decide_eq_decide.2 (dn_k _ _ _ _ _ _ _ (Nat.mod_lt _ h5))
              have HC3 := Lib.hid HC2; clear HC2
              go_wp2
              go_roundw
              case rel => exact ⟨j + 1, by omega, by go_num, HC3.out⟩
              case measure => simp [intOf]; omega
        · obtain rfl : j = nC := by omega
          have HC2 : Cpy w v.cols v.rr v.rc CC RR ws (i + 1) 0 0 0 wr := by
            obtain ⟨wn, hbm, hbl2, hag⟩ := HC.out
            refine ⟨wn, hbm, hbl2, fun x y hx hy => ?_⟩
            rw [hag x y hx hy]
            congr 1
            exact decide_eq_decide.2 (dn_j _ _ _ _ _ _ (by rw [← hCC] at hx; exact Nat.div_lt_of_lt_mul (by rw [Nat.mul_comm]; exact hx)))
          have HC3 := Lib.hid HC2; clear HC2
          go_wp2
          go_roundw
          case rel => exact ⟨i + 1, by omega, by go_num, HC3.out⟩
          case measure => simp [intOf]; omega
    · obtain rfl : i = nR := by omega
      go_wp2
      go_ret2
      obtain ⟨wn, hbm, hbl2, hag⟩ := HC.out
      rw [hRR, hCC]
      refine ⟨rfl, hbl2, wn, hbm, fun x y hx hy => ?_⟩
      rw [hag x y hx hy, decide_eq_true, Bool.true_and]
      exact dn_i _ _ _ _ _ (by rw [← hRR] at hy; exact Nat.div_lt_of_lt_mul (by rw [Nat.mul_comm]; exact hy))
end Go.Proofs.YtcnallabiffemaaGreatDoor
namespace Go.Proofs.YtcnallabiffemaaGreatDoor
open Go.RowKit (wrap32 wrap64 intOf Hid Below)
open Zx

/-- a size of symbols: rows, columns; regions above and beside each other; rows and columns of a region; the version's place -/
structure SzOk (H W nR nC rr rc i0 : Nat) : Prop where
  hi : i0 < 48
  v : (verAt i0).rows = H ∧ (verAt i0).cols = W ∧ (verAt i0).rr = rr ∧ (verAt i0).rc = rc
  no : ∀ j, j < i0 → ¬ ((verAt j).rows = H ∧ (verAt j).cols = W)
  h : 8 ≤ H ∧ H ≤ 144 ∧ H % 2 = 0
  w : W < 1000 ∧ W % 2 = 0
  r : nR * (rr + 2) = H ∧ nC * (rc + 2) = W ∧ H / rr = nR ∧ W / rc = nC ∧ 0 < rr ∧ 0 < rc ∧ 0 < nR ∧ 0 < nC

/-- a parser made of a picture -/
def Prs (w : World) (t : Nat) (H W nR nC rr rc : Nat) (ws : Nat → Nat) (v : Ver) (w' : World) : Prop :=
  ∃ pm bm pr br pv wm, Ps w' t pm bm pr br pv (nR * rr) (nC * rc) wm 0 ∧ (∃ w0, VerOk w0 pv v ∧ w0.heap.size ≤ br ∧ Below w0.heap.size w0 w') ∧ VerOk w' pv v ∧ (t < w'.heap.size ∧ pm < w'.heap.size ∧ bm < w'.heap.size ∧ pr < w'.heap.size ∧ br < w'.heap.size) ∧ w.heap.size ≤ br ∧
    (∀ x y, x < nC * rc → y < nR * rr → bmAt (nC * rc) wm x y = bmAt W ws (x + 1 + 2 * (x / rc)) (y + 1 + 2 * (y / rr))) ∧ Below w.heap.size w w'

set_option maxRecDepth 100000 in
theorem parserC (w : World) (p b H W nR nC rr rc i0 : Nat) (ws : Nat → Nat) (h : Bm w p b W H ws) (hz : SzOk H W nR nC rr rc i0) :
    Calls Tryz.prog 54 #[pt p] w fun e w' => ∃ t, e = .returned (.tuple #[pt t, .nilIface]) ∧ Prs w t H W nR nC rr rc ws (verAt i0) w' := by
  have HB := Lib.hid h
  have hw1 := h.w1
  have hh1 := h.h1
  clear h
  obtain ⟨hi, ⟨v1, v2, v3, v4⟩, no, hh, hw, r1, r2, r3, r4, r5, r6, r7, r8⟩ := hz
  have NO := Lib.hid no; clear no
  have a1 := and1_even H (by omega) hh.2.2
  have V1 := Lib.hid v1; clear v1
  have V2 := Lib.hid v2; clear v2
  have V3 := Lib.hid v3; clear v3
  have V4 := Lib.hid v4; clear v4
  have g1 : ¬ ((H : Int) < 8) := by omega
  have g2 : ¬ ((144 : Int) < (H : Int)) := by omega
  have l1 : 1 ≤ nR * rr := Nat.mul_pos r7 r5
  have l2 : 1 ≤ nC * rc := Nat.mul_pos r8 r6
  have l3 : nR * rr ≤ nR * (rr + 2) := Nat.mul_le_mul_left _ (by omega)
  have l4 : nC * rc ≤ nC * (rc + 2) := Nat.mul_le_mul_left _ (by omega)
  rw [r1] at l3
  rw [r2] at l4
  go_enter Tryz.func54, Tryz.ntmps54
  go_wp2_with fail
  refine (hgtC w p b W H ws HB.out).mono ?_
  rintro e w' ⟨rfl, rfl⟩
  go_wp2_with fail
  refine (readVer w p b W H ws HB.out i0 hi ⟨V1.out, V2.out⟩ NO.out ⟨by omega, hh.2.2⟩ hw).mono ?_
  rintro e w1 ⟨pv, rfl, hv, hb1⟩
  have HV := Lib.hid hv; clear hv
  have HB1 := Lib.hid (bmWs_read HB.out (But.ofAll (S := fun _ => False) hb1) id id)
  have z1 := hb1.size
  have X1 := Lib.hid hb1; clear hb1
  go_wp2_with fail
  have ec := extractC w1 pv p b W H nR nC (verAt i0) ws HV.out HB1.out V1.out V2.out (by rw [V3.out]; exact r1) (by rw [V4.out]; exact r2) (by rw [V3.out]; exact r3) (by rw [V4.out]; exact r4) (by rw [V3.out]; exact r5) (by rw [V4.out]; exact r6) r7 r8
  rw [V3.out, V4.out] at ec
  refine ec.mono ?_
  rintro e w2 ⟨rfl, hb2, wn, hbm, hbits⟩
  obtain ⟨RR, hRR⟩ : ∃ RR, nR * rr = RR := ⟨_, rfl⟩
  obtain ⟨CC, hCC⟩ : ∃ CC, nC * rc = CC := ⟨_, rfl⟩
  rw [hRR] at hbm hbits l1 l3
  rw [hCC] at hbm hbits l2 l4
  clear ec
  have HBM := Lib.hid hbm
  have hlt := hbm.lt'
  clear hbm
  have HBI := Lib.hid hbits; clear hbits
  have HV2 := Lib.hid (HV.out.below hb2)
  have z2 := hb2.size
  have X2 := Lib.hid hb2; clear hb2
  go_wp2_with fail
  refine (wdtC w2 _ _ CC RR wn HBM.out).mono ?_
  rintro e w' ⟨rfl, rfl⟩
  go_wp2_with fail
  refine (hgtC w2 _ _ CC RR wn HBM.out).mono ?_
  rintro e w' ⟨rfl, rfl⟩
  go_wp2_with fail
  refine (newBm w2 CC RR ⟨l2, by omega⟩ ⟨l1, by omega⟩).mono ?_
  rintro e w3 ⟨rfl, hbm3, hz3, hb3⟩
  have HB3 := Lib.hid hbm3; clear hbm3
  have X3 := Lib.hid hb3; clear hb3
  go_wp2
  go_ret2
  have b4 : Below w3.heap.size w3 (w3.alloc (.cells #[pt (w1.heap.size + 1), pt (w2.heap.size + 1), pt pv] 148)) := (Below.refl _ _).alloc (Nat.le_refl _) _
  have n4 : ∀ i, (w3.alloc (.cells #[pt (w1.heap.size + 1), pt (w2.heap.size + 1), pt pv] 148)).cell? ⟨w3.heap.size, i, none⟩ = (#[pt (w1.heap.size + 1), pt (w2.heap.size + 1), pt pv])[i]? := fun i => World.cell?_alloc_new w3 _ _ i
  have f34 := But.ofAll (S := fun _ => False) b4
  have f23 := But.ofAll (S := fun _ => False) X3.out
  have s4 : (w3.alloc (.cells #[pt (w1.heap.size + 1), pt (w2.heap.size + 1), pt pv] 148)).heap.size = w3.heap.size + 1 := by rw [World.size_alloc]
  refine ⟨w3.heap.size, by rw [hz3]; rfl, w1.heap.size + 1, w1.heap.size, w2.heap.size + 1, w2.heap.size, pv, wn, ?_, ⟨w1, HV.out, z2, (X2.out.trans (X3.out.mono z2)).trans (b4.mono (Nat.le_trans z2 X3.out.size))⟩, (HV2.out.below X3.out).below b4, by rw [s4]; omega, by omega, ?_, ?_⟩
  · rw [hRR, hCC]
    exact ⟨n4 0, n4 1, n4 2, bmWs_read (bmWs_read HBM.out f23 id id) f34 id id, ⟨_, bmWs_read HB3.out f34 id id, fun x y _ _ => by rw [bmAt_zero]; exact (Nat.zero_testBit _).symm⟩, by rw [s4]; omega, by omega⟩
  · rw [hRR, hCC]; exact HBI.out
  · exact ((X1.out.trans (X2.out.mono z1)).trans (X3.out.mono (by omega))).trans (b4.mono (by omega))
end Go.Proofs.YtcnallabiffemaaGreatDoor
namespace Go.Proofs.YtcnallabiffemaaGreatDoor
open Zx

/-- the version of a size -/
def verOf (i : Nat) : Nat := if i < 23 then i else i + 1

def verFine (i : Nat) : Bool :=
  let s := symAt i
  let v := verAt (verOf i)
  decide (v.rows = s.rows ∧ v.cols = s.cols ∧ v.rr = s.rr ∧ v.rc = s.rc ∧ v.ec = s.n ∧ v.bl = [(s.blocks, s.k)] ∧ v.no = verOf i + 1) && (List.range (verOf i)).all fun j => !decide ((verAt j).rows = s.rows ∧ (verAt j).cols = s.cols)
theorem verFine_all : ∀ i, i < 29 → verFine i = true := by decide +kernel

theorem ver_at (i : Nat) (hi : i < 29) : (verAt (verOf i)).ec = (symAt i).n ∧ (verAt (verOf i)).bl = [((symAt i).blocks, (symAt i).k)] ∧ (verAt (verOf i)).no = verOf i + 1 := by
  have h := verFine_all i hi
  unfold verFine at h
  simp only [Bool.and_eq_true, decide_eq_true_eq] at h
  exact ⟨h.1.2.2.2.2.1, h.1.2.2.2.2.2.1, h.1.2.2.2.2.2.2⟩

theorem szOk_at (i : Nat) (hi : i < 29) : SzOk (symAt i).rows (symAt i).cols (symAt i).down (symAt i).across (symAt i).rr (symAt i).rc (verOf i) := by
  have h := verFine_all i hi
  unfold verFine at h
  simp only [Bool.and_eq_true, decide_eq_true_eq, List.all_eq_true, List.mem_range, Bool.not_eq_true', decide_eq_false_iff_not] at h
  have f := symFine i hi
  refine ⟨by unfold verOf; split <;> omega, ⟨h.1.1, h.1.2.1, h.1.2.2.1, h.1.2.2.2.1⟩, fun j hj => h.2 j hj, ⟨f.ge.1, ?_, f.ge.2.2.1⟩, ⟨?_, f.ge.2.2.2.2.2⟩, f.rw_⟩
  · have := f.ge; omega
  · have := f.ge; omega
end Go.Proofs.YtcnallabiffemaaGreatDoor
namespace Go.Proofs.YtcnallabiffemaaGreatDoor
open Go.RowKit (wrap32 wrap64 intOf Hid Below)
open Zx

theorem info110 : (Tryz.prog.info? 110).map (fun i => (i.zero, i.size, i.bytes)) = some (some (.agg #[.int .i64 0, .slice none 0 0]), 2, 32) := by kernel_rfl

theorem verEcb (w : World) (p eb : Nat) (h : w.cell? ⟨p, 5, none⟩ = some (pt eb)) : Calls Tryz.prog 87 #[pt p] w fun e w' => e = .returned (pt eb) ∧ w = w' := by
  go_enter Tryz.func87, Tryz.ntmps87
  go_wp2
  go_ret
  exact ⟨rfl, rfl⟩
theorem verNo (w : World) (p no : Nat) (h : w.cell? ⟨p, 0, none⟩ = some (.int .i64 no)) : Calls Tryz.prog 92 #[pt p] w fun e w' => e = .returned (.int .i64 no) ∧ w = w' := by
  go_enter Tryz.func92, Tryz.ntmps92
  go_wp2
  go_ret
  exact ⟨rfl, rfl⟩

theorem mkD (c : Nat) (hc : c ≤ 1000) (w : World) : (Instr.makeSlice 106 (.int .i64 (c : Int)) (.int .i64 (c : Int))).run Tryz.prog w = .ok (.slice (some ⟨w.heap.size, 0, none⟩) c c) (w.alloc (.cells (madeCells #[.int .i64 0, .slice none 0 0] (c * 2)) 110)) := by
  obtain ⟨i, hi, hz⟩ := Option.map_eq_some_iff.1 info110
  simp only [Prod.mk.injEq] at hz
  have := run_make (P := Tryz.prog) 106 110 i (.agg #[.int .i64 0, .slice none 0 0]) Tryz.underlying106 hi hz.1 .i64 .i64 (c : Int) (c : Int) (by omega) (by omega) (by rw [hz.2.2]; omega) (by omega) (w := w)
  rw [hz.2.1, show (Value.agg #[.int .i64 0, .slice none 0 0]).cells = #[.int .i64 0, .slice none 0 0] from rfl] at this
  simpa using this

/-- blocks of codewords: B of n ones each, k of them data; block j lies at q j and holds f j -/
structure Dbs (w : World) (rb B n k : Nat) (q : Nat → Nat) (f : Nat → Nat → Nat) : Prop where
  nd : ∀ j, j < B → w.cell? ⟨rb, j * 2, none⟩ = some (.int .i64 k)
  sl : ∀ j, j < B → w.cell? ⟨rb, j * 2 + 1, none⟩ = some (.slice (some ⟨q j, 0, none⟩) n n)
  rows : ∀ j, j < B → w.rowIs (q j) 5 n (fun i => byt (f j i))
  inj : ∀ i j, i < B → j < B → q i = q j → i = j
  ne : ∀ j, j < B → q j ≠ rb
  lt : rb < w.heap.size

theorem Dbs.keep {w w' : World} {rb B n k : Nat} {q : Nat → Nat} {f : Nat → Nat → Nat} (h : Dbs w rb B n k q f) {S : Nat → Prop} (hb : But S w w') (h1 : ¬ S rb) (h2 : ∀ j, j < B → ¬ S (q j)) : Dbs w' rb B n k q f :=
  ⟨fun j hj => (hb.cell (p := ⟨rb, j * 2, none⟩) h.lt h1).trans (h.nd j hj), fun j hj => (hb.cell (p := ⟨rb, j * 2 + 1, none⟩) h.lt h1).trans (h.sl j hj), fun j hj => hb.row (h.rows j hj) (h2 j hj), h.inj, h.ne, Nat.lt_of_lt_of_le h.lt hb.size⟩
theorem Dbs.dn {w : World} {rb B n k : Nat} {q : Nat → Nat} {f : Nat → Nat → Nat} (h : Dbs w rb B n k q f) (m : Nat) : Dbs (w.drewN m) rb B n k q f := ⟨h.nd, h.sl, h.rows, h.inj, h.ne, h.lt⟩
theorem Dbs.set {w : World} {rb B n k : Nat} {q : Nat → Nat} {f g : Nat → Nat → Nat} (h : Dbs w rb B n k q f) {j i v : Nat} (hj : j < B) (hg : ∀ j' i', j' < B → i' < n → (if j' = j ∧ i' = i then v else f j' i') = g j' i') :
    Dbs (w.setCell ⟨q j, i, none⟩ (byt v)) rb B n k q g := by
  have hb : But (· = q j) w (w.setCell ⟨q j, i, none⟩ (byt v)) := (But.refl (· = q j) w).thenSet (a := ⟨q j, i, none⟩) (.inl rfl) _
  refine ⟨fun j' hj' => (hb.cell (p := ⟨rb, j' * 2, none⟩) h.lt (h.ne j hj).symm).trans (h.nd j' hj'), fun j' hj' => (hb.cell (p := ⟨rb, j' * 2 + 1, none⟩) h.lt (h.ne j hj).symm).trans (h.sl j' hj'), fun j' hj' => ?_, h.inj, h.ne, Nat.lt_of_lt_of_le h.lt hb.size⟩
  by_cases h1 : j' = j
  · subst h1
    refine ((h.rows j' hj').set i (byt v)).congr fun i' hi' => ?_
    rw [← hg j' i' hj' hi']
    by_cases h2 : i' = i
    · rw [if_pos h2, if_pos ⟨rfl, h2⟩]
    · rw [if_neg h2, if_neg (fun h => h2 h.2)]
  · refine (hb.row (h.rows j' hj') (fun h2 => h1 (h.inj _ _ hj' hj h2))).congr fun i' hi' => ?_
    rw [← hg j' i' hj' hi', if_neg (fun h => h1 h.1)]

/-- the first o codewords are laid, in turn -/
def turns (B : Nat) (d : Nat → Nat) (o : Nat) (j i : Nat) : Nat := if i * B + j < o then d (i * B + j) else 0
theorem turns_step (B : Nat) (d : Nat → Nat) (i j : Nat) (hj : j < B) : ∀ j' i', j' < B → (if j' = j ∧ i' = i then d (i * B + j) else turns B d (i * B + j) j' i') = turns B d (i * B + (j + 1)) j' i' := by
  intro j' i' hj'
  unfold turns
  by_cases h : j' = j ∧ i' = i
  · obtain ⟨rfl, rfl⟩ := h
    rw [if_pos ⟨rfl, rfl⟩, if_pos (by omega)]
  · rw [if_neg h]
    have hne : i' * B + j' ≠ i * B + j := fun h2 => by
      have := ix_inj hj' hj h2
      exact h ⟨this.2, this.1⟩
    by_cases h2 : i' * B + j' < i * B + j
    · rw [if_pos h2, if_pos (by omega)]
    · rw [if_neg h2, if_neg (by omega)]
end Go.Proofs.YtcnallabiffemaaGreatDoor
namespace Go.Proofs.YtcnallabiffemaaGreatDoor
open Go.RowKit (wrap32 wrap64 intOf Hid Below)
open Zx

/-- while the blocks are made: t of them are there -/
structure Mk (w : World) (H rb B n k t : Nat) (wr : World) : Prop where
  row : wr.rowIs rb 110 (B * 2) (fun c => if c / 2 < t then (if c % 2 = 0 then .int .i64 k else .slice (some ⟨H + c / 2, 0, none⟩) n n) else (if c % 2 = 0 then .int .i64 0 else .slice none 0 0))
  rows : ∀ j, j < t → wr.rowIs (H + j) 5 n (fun _ => byt 0)
  sz : wr.heap.size = H + t
  lt : rb < H ∧ w.heap.size ≤ rb
  but : Below w.heap.size w wr

theorem Mk.start (w w1 : World) (B n k : Nat) (h : Below w.heap.size w w1) {w2 : World} (h2 : Below (w1.heap.size + 1) (w1.alloc (.cells (madeCells #[.int .i64 0, .slice none 0 0] (B * 2)) 110)) w2) : Mk w w2.heap.size w1.heap.size B n k 0 w2 := by
  have r := World.rowIs_alloc w1 (madeCells #[.int .i64 0, .slice none 0 0] (B * 2)) 110 (fun c => if c / 2 < 0 then (if c % 2 = 0 then .int .i64 k else .slice (some ⟨w2.heap.size + c / 2, 0, none⟩) n n) else (if c % 2 = 0 then .int .i64 0 else .slice none 0 0)) (fun i hi => by
    rw [size_madeCells] at hi
    rw [if_neg (Nat.not_lt_zero _)]
    have h2 : i % 2 = 0 ∨ i % 2 = 1 := by omega
    rcases h2 with h2 | h2 <;> simp [madeCells, hi, h2])
  rw [size_madeCells] at r
  have hs := h2.size
  rw [World.size_alloc] at hs
  exact ⟨rowIs_below r h2 (by omega), fun j hj => absurd hj (Nat.not_lt_zero j), rfl, ⟨by omega, h.size⟩, (h.alloc h.size _).trans (h2.mono (by have := h.size; omega))⟩

theorem Mk.next {w wr : World} {H rb B n k t : Nat} (h : Mk w H rb B n k t wr) (ht : t < B) :
    Mk w H rb B n k (t + 1) (((wr.setCell ⟨rb, t * 2, none⟩ (.int .i64 k)).alloc (.cells (madeCells #[.int .u8 0] n) 5)).setCell ⟨rb, t * 2 + 1, none⟩ (.slice (some ⟨H + t, 0, none⟩) n n)) := by
  have hs := h.sz
  have hl := h.lt
  have b1 : But (· = rb) wr (((wr.setCell ⟨rb, t * 2, none⟩ (.int .i64 k)).alloc (.cells (madeCells #[.int .u8 0] n) 5)).setCell ⟨rb, t * 2 + 1, none⟩ (.slice (some ⟨H + t, 0, none⟩) n n)) :=
    (((But.refl (· = rb) wr).thenSet (a := ⟨rb, t * 2, none⟩) (.inl rfl) _).thenAlloc _).thenSet (a := ⟨rb, t * 2 + 1, none⟩) (.inl rfl) _
  have r1 := (((h.row.set (t * 2) (.int .i64 k)).alloc (.cells (madeCells #[.int .u8 0] n) 5)).set (t * 2 + 1) (.slice (some ⟨H + t, 0, none⟩) n n))
  have r2 := (World.rowIs_made (wr.setCell ⟨rb, t * 2, none⟩ (.int .i64 k)) (.int .u8 0) n 5)
  rw [World.size_setCell, hs] at r2
  refine ⟨r1.congr fun c hc => ?_, fun j hj => ?_, ?_, hl, h.but.trans ⟨b1.os, b1.tape, b1.output, by have := b1.size; omega, fun b hb => b1.block b (by omega) (show ¬ b = rb by omega)⟩⟩
  · by_cases c1 : c = t * 2 + 1
    · subst c1; rw [if_pos rfl, if_pos (by omega), if_neg (by omega), show (t * 2 + 1) / 2 = t by omega]
    · rw [if_neg c1]
      by_cases c2 : c = t * 2
      · subst c2; rw [if_pos rfl, if_pos (by omega), if_pos (by omega)]
      · rw [if_neg c2]
        by_cases c3 : c / 2 < t
        · rw [if_pos c3, if_pos (show c / 2 < t + 1 by omega)]
        · rw [if_neg c3, if_neg (show ¬ c / 2 < t + 1 by omega)]
  · by_cases c1 : j = t
    · subst c1
      exact r2.setOther (a := ⟨rb, j * 2 + 1, none⟩) (show ¬ H + j = rb by omega) _
    · exact b1.row (h.rows j (by omega)) (show ¬ H + j = rb by omega)
  · rw [World.size_setCell, World.size_alloc, World.size_setCell, hs]; omega

theorem Mk.dbs {w wr : World} {H rb B n k : Nat} (h : Mk w H rb B n k B wr) : Dbs wr rb B n k (fun j => H + j) (fun _ _ => 0) := by
  have hl := h.lt
  refine ⟨fun j hj => ?_, fun j hj => ?_, fun j hj => h.rows j hj, fun i j _ _ h => by omega, fun j _ => by omega, h.row.lt⟩
  · rw [h.row.cell (i := j * 2) (by omega), if_pos (by omega), if_pos (by omega)]
  · rw [h.row.cell (i := j * 2 + 1) (by omega), if_pos (by omega), if_neg (by omega), show (j * 2 + 1) / 2 = j by omega]

theorem Dbs.lay {w : World} {rb B n k : Nat} {q : Nat → Nat} {d : Nat → Nat} {i j o : Nat} (h : Dbs w rb B n k q (turns B d o)) (ho : o = i * B + j) (hj : j < B) (m : Nat) :
    Dbs ((w.drewN m).setCell ⟨q j, i, none⟩ (byt (d o))) rb B n k q (turns B d (o + 1)) := by
  subst ho
  exact (h.dn m).set hj fun j' i' hj' _ => turns_step B d i j hj j' i' hj'
theorem Dbs.fin {w : World} {rb B n k N : Nat} {q : Nat → Nat} {d : Nat → Nat} (h : Dbs w rb B n k q (turns B d N)) (hN : n * B = N) : Dbs w rb B n k q (fun j i => d (i * B + j)) :=
  ⟨h.nd, h.sl, fun j hj => (h.rows j hj).congr fun i hi => by
    have hlt : i * B + j < N := by
      have := Nat.mul_le_mul_right B (show i + 1 ≤ n from hi)
      rw [Nat.add_mul, Nat.one_mul] at this
      omega
    unfold turns; rw [if_pos hlt], h.inj, h.ne, h.lt⟩
theorem off_lt2 {i j B n N : Nat} (hi : i < n) (hj : j < B) (hN : n * B = N) : i * B + j < N := by
  have := Nat.mul_le_mul_right B (show i + 1 ≤ n from hi)
  rw [Nat.add_mul, Nat.one_mul] at this
  omega

def DbsTo (w : World) (B n k : Nat) (f : Nat → Nat → Nat) (e : Ending) (w' : World) : Prop := ∃ rb q, e = .returned (.tuple #[.slice (some ⟨rb, 0, none⟩) B B, .nilIface]) ∧ Dbs w' rb B n k q f ∧ w.heap.size ≤ rb ∧ (∀ j, j < B → w.heap.size ≤ q j) ∧ Below w.heap.size w w'

set_option maxRecDepth 100000 in
set_option maxHeartbeats 4000000 in
theorem blocksC (w : World) (pv cb B k ec no : Nat) (v : Ver) (d : Nat → Nat) (hv : VerOk w pv v) (hbl : v.bl = [(B, k)]) (hec : v.ec = ec) (hno : v.no = no) (hno2 : no ≠ 24) (hr : w.rowIs cb 5 ((k + ec) * B) (fun i => byt (d i))) (hB : 0 < B ∧ B ≤ 8) (hk : 1 ≤ k ∧ k ≤ 250) (he : 1 ≤ ec ∧ ec ≤ 100) :
    Calls Tryz.prog 57 #[.slice (some ⟨cb, 0, none⟩) ((k + ec) * B) ((k + ec) * B), pt pv] w (DbsTo w B (k + ec) k (fun j i => d (i * B + j))) := by
  obtain ⟨⟨eb, v0, -, -, -, -, v5, -, heb⟩, hvl⟩ := hv
  rw [hno] at v0
  rw [hbl, hec] at heb
  have HEB := Lib.hid heb
  obtain ⟨⟨ab, e0, e1, e2, hab⟩, hebl⟩ := heb
  have e3 := e2 0 (by simp)
  clear e2
  simp only [bc, bd] at e3
  obtain ⟨e30, e31⟩ := e3
  clear hbl hec hno
  have hcb := hr.lt
  have HR := Lib.hid hr; clear hr
  obtain ⟨N, hN⟩ : ∃ N, (k + ec) * B = N := ⟨_, rfl⟩
  rw [hN] at HR ⊢
  have hN1 : N ≤ 2800 := by rw [← hN]; exact Nat.mul_le_mul (by omega : k + ec ≤ 350) hB.2
  have HN := Lib.hid hN; clear hN
  go_enter Tryz.func57, Tryz.ntmps57
  go_wp2_with fail
  refine (verEcb w pv eb v5).mono ?_
  rintro e w' ⟨rfl, hw⟩
  obtain rfl := hw
  go_wp2_with fail
  refine (ebsC w eb ec ab [(B, k)] e1).mono ?_
  rintro e w' ⟨rfl, hw⟩
  obtain rfl := hw
  go_wp2_with fail
  go_loopw [7, 38] (fun s7 s38 wr => ∃ t : Nat, t ≤ 1 ∧ s38 = .int .i64 t ∧ s7 = .int .i64 ((t * B : Nat) : Int) ∧ Below w.heap.size w wr) (fun _ s38 _ => 1 - (intOf s38).toNat)
  case atStart => exact ⟨0, by decide, rfl, by rw [Nat.zero_mul]; rfl, Below.refl _ _⟩
  case round =>
    obtain ⟨t, ht, rfl, rfl, hb⟩ := hrel
    obtain ⟨w1, rfl⟩ : ∃ w1 : World, w1 = wr := ⟨_, rfl⟩
    have HB := Lib.hid hb; clear hb
    have z1 := HB.out.size
    by_cases ht1 : t < 1
    · obtain rfl : t = 0 := by omega
      have c0 := (HB.out.cell (p := ⟨ab, 0 * 2, none⟩) hab).trans e30
      have c1 := (HB.out.cell (p := ⟨ab, 0 * 2 + 1, none⟩) hab).trans e31
      go_wp2_with fail
      refine (cntC _ w1.heap.size B k (World.cell?_alloc_new w1 _ _ 0)).mono ?_
      rintro e w' ⟨rfl, hw⟩
      rw [← hw]; clear hw w'
      go_wp2
      go_roundw
      case rel => exact ⟨1, by decide, rfl, by go_num, HB.out.alloc z1 _⟩
      case measure => simp [intOf]
    · obtain rfl : t = 1 := by omega
      rw [Nat.one_mul, show ((1 : Nat) : Int) = 1 from rfl]
      have hmk := mkD B (by omega)
      obtain ⟨w2, hw2⟩ : ∃ w2, w1.alloc (.cells (madeCells #[.int .i64 0, .slice none 0 0] (B * 2)) 110) = w2 := ⟨_, rfl⟩
      have zw2 : Hid (w2.heap.size = w1.heap.size + 1) := Lib.hid (by rw [← hw2]; simp)
      go_wp2_with fail
      have HW2 := Lib.hid hw2
      clear hw2 hmk ht ht1
      go_loopw [12, 50] (fun s12 s50 wr => (s50 = .int .i64 0 ∧ s12 = .int .i64 0 ∧ wr = w2) ∨ (s50 = .int .i64 1 ∧ s12 = .int .i64 B ∧ ∃ H, Mk w H w1.heap.size B (k + ec) k B wr)) (fun _ s50 _ => 1 - (intOf s50).toNat)
      case atStart => exact .inl ⟨rfl, rfl, rfl⟩
      case round =>
        rcases hrel with ⟨rfl, rfl, hwr⟩ | ⟨rfl, rfl, H, hmk⟩
        · rw [hwr]; clear hwr wr
          have bw2 : Below w.heap.size w w2 := by rw [← HW2.out]; exact HB.out.alloc z1 _
          have c0 := (bw2.cell (p := ⟨ab, 0 * 2, none⟩) hab).trans e30
          have c1 := (bw2.cell (p := ⟨ab, 0 * 2 + 1, none⟩) hab).trans e31
          clear bw2
          have z2 := zw2.out
          have mk0 := Lib.hid (Mk.start w w1 B (k + ec) k HB.out (w2 := w2.alloc (.cells #[.int .i64 B, .int .i64 k] 156)) (by rw [HW2.out]; exact (Below.refl _ _).alloc (by rw [z2]; exact Nat.le_refl _) _))
          rw [show (w2.alloc (.cells #[.int .i64 B, .int .i64 k] 156)).heap.size = w1.heap.size + 2 by rw [World.size_alloc, z2]] at mk0
          obtain ⟨w3, hw3⟩ : ∃ w3, w2.alloc (.cells #[.int .i64 B, .int .i64 k] 156) = w3 := ⟨_, rfl⟩
          have cw0 : Hid (w3.cell? ⟨w1.heap.size + 1, 0, none⟩ = some (.int .i64 B) ∧ w3.cell? ⟨w1.heap.size + 1, 1, none⟩ = some (.int .i64 k)) := Lib.hid (by
            rw [← hw3, ← z2]
            exact ⟨World.cell?_alloc_new w2 _ _ 0, World.cell?_alloc_new w2 _ _ 1⟩)
          have zw3 : Hid (w3.heap.size = w1.heap.size + 2) := Lib.hid (by rw [← hw3, World.size_alloc, z2])
          go_wp2_with fail
          rw [hw3] at mk0
          clear hw3 c0 c1
          go_loopw [12, 15] (fun s12 s15 wr => ∃ t : Nat, t ≤ B ∧ s12 = .int .i64 t ∧ s15 = .int .i64 t ∧ Mk w (w1.heap.size + 2) w1.heap.size B (k + ec) k t wr ∧ But (· = w1.heap.size) w3 wr) (fun _ s15 _ => B - (intOf s15).toNat)
          case atStart => exact ⟨0, Nat.zero_le _, rfl, rfl, mk0.out, But.refl _ _⟩
          case round =>
            clear mk0
            obtain ⟨t, ht, rfl, rfl, hmk, hbut⟩ := hrel
            obtain ⟨w4, rfl⟩ : ∃ w4 : World, w4 = wr := ⟨_, rfl⟩
            have hsz := hmk.sz
            have zz := zw3.out
            have d0 := (hbut.cell (p := ⟨w1.heap.size + 1, 0, none⟩) (show w1.heap.size + 1 < w3.heap.size by omega) (show ¬ w1.heap.size + 1 = w1.heap.size by omega)).trans cw0.out.1
            have d1 := (hbut.cell (p := ⟨w1.heap.size + 1, 1, none⟩) (show w1.heap.size + 1 < w3.heap.size by omega) (show ¬ w1.heap.size + 1 = w1.heap.size by omega)).trans cw0.out.2
            have heb4 := HEB.out.below hmk.but
            have MK := Lib.hid hmk; clear hmk
            have BU := Lib.hid hbut; clear hbut
            have HSZ := Lib.hid hsz; clear hsz zz
            have HE4 := Lib.hid heb4; clear heb4
            go_wp2_with fail
            refine (cntC w4 (w1.heap.size + 1) B k d0).mono ?_
            rintro e w' ⟨rfl, hw⟩
            obtain rfl := hw
            by_cases htB : t < B
            · have rr := MK.out.row
              have f0 := rr.frozen (t * 2)
              have f1 := rr.frozen (t * 2 + 1)
              have g0 := rr.cell (i := t * 2) (by omega)
              have g1 := rr.cell (i := t * 2 + 1) (by omega)
              rw [if_neg (show ¬ t * 2 / 2 < t by omega), if_pos (by omega)] at g0
              rw [if_neg (show ¬ (t * 2 + 1) / 2 < t by omega), if_neg (by omega)] at g1
              clear rr
              have hmk2 := run_make_row' (P := Tryz.prog) 32 5 (.int .u8 0) 1 Tryz.underlying32 infoB rfl .i64 .i64 (k + ec) (by omega) (by omega)
              rw [show ((k + ec : Nat) : Int) = (ec : Int) + (k : Int) by omega] at hmk2
              go_wp2_with fail
              refine (datC w4 (w1.heap.size + 1) B k d1).mono ?_
              rintro e w' ⟨rfl, hw⟩
              obtain rfl := hw
              go_wp2_with fail
              refine (ecC w4 eb ec [(B, k)] HE4.out).mono ?_
              rintro e w' ⟨rfl, hw⟩
              obtain rfl := hw
              have mn := Lib.hid (MK.out.next htB)
              have rr2 := (MK.out.row.set (t * 2) (.int .i64 k)).alloc (.cells (madeCells #[.int .u8 0] (k + ec)) 5)
              have f2 := rr2.frozen (t * 2 + 1)
              have g2 := rr2.cell (i := t * 2 + 1) (by omega)
              rw [if_neg (show ¬ t * 2 + 1 = t * 2 by omega), if_neg (show ¬ (t * 2 + 1) / 2 < t by omega), if_neg (show ¬ (t * 2 + 1) % 2 = 0 by omega)] at g2
              clear rr2
              have bn : But (· = w1.heap.size) w4 _ := (((But.refl (· = w1.heap.size) w4).thenSet (a := ⟨w1.heap.size, t * 2, none⟩) (.inl rfl) (.int .i64 k)).thenAlloc (.cells (madeCells #[.int .u8 0] (k + ec)) 5)).thenSet (a := ⟨w1.heap.size, t * 2 + 1, none⟩) (.inl rfl) (.slice (some ⟨w1.heap.size + 2 + t, 0, none⟩) (k + ec) (k + ec))
              have BN := Lib.hid (BU.out.trans bn); clear bn
              go_wp2
              rw [HSZ.out]
              go_roundw
              case rel => exact ⟨t + 1, htB, by go_num, by go_num, mn.out, BN.out⟩
              case measure => simp [intOf]; omega
            · obtain rfl : t = B := by omega
              clear d0 d1 HE4
              go_wp2
              go_roundw
              case rel => exact .inr ⟨rfl, rfl, _, MK.out⟩
              case measure => simp [intOf]
        · have bw := hmk.but
          have hH : w.heap.size ≤ H := by have := hmk.lt; omega
          have hrb := hmk.lt.2
          have D0 := Lib.hid hmk.dbs; clear hmk
          have BW := Lib.hid bw; clear bw
          obtain ⟨w3, rfl⟩ : ∃ w3 : World, w3 = wr := ⟨_, rfl⟩
          have HE3 := Lib.hid (HEB.out.below BW.out)
          have s0 := D0.out.sl 0 hB.1
          rw [show 0 * 2 + 1 = 1 from rfl] at s0
          have x4 : ((k + ec : Nat) : Int) - (ec : Int) = (k : Int) := by omega
          have x5 : (k : Int) + (ec : Int) - (ec : Int) = (k : Int) := by omega
          go_wp2_with fail
          refine (ecC w3 eb ec [(B, k)] HE3.out).mono ?_
          rintro e w' ⟨rfl, hw⟩
          obtain rfl := hw
          have HT0 : Hid (Dbs w3 w1.heap.size B (k + ec) k (fun j => H + j) (turns B d 0)) := Lib.hid (by
            have := D0.out
            have e : turns B d 0 = fun _ _ => 0 := by funext j i; unfold turns; rw [if_neg (Nat.not_lt_zero _)]
            rw [e]; exact this)
          clear D0 HE3
          go_wp2_with fail
          clear x4 x5 s0
          go_loopw [21, 22] (fun s21 s22 wr => ∃ i o : Nat, i ≤ k - 1 ∧ o = i * B ∧ s22 = .int .i64 i ∧ s21 = .int .i64 o ∧ Dbs wr w1.heap.size B (k + ec) k (fun j => H + j) (turns B d o) ∧ Below w.heap.size w wr) (fun _ s22 _ => k - 1 - (intOf s22).toNat)
          case atStart => exact ⟨0, 0, Nat.zero_le _, (Nat.zero_mul _).symm, rfl, rfl, HT0.out, BW.out⟩
          case round =>
            clear HT0 BW
            obtain ⟨i, o, hi, ho, rfl, rfl, hd, hbw⟩ := hrel
            have HO := Lib.hid ho; clear ho
            have HD := Lib.hid hd; clear hd
            have BW := Lib.hid hbw; clear hbw
            by_cases hik : i < k - 1
            · go_wp2_with fail
              go_loopw [21, 23] (fun s21 s23 wr => ∃ j o : Nat, j ≤ B ∧ o = i * B + j ∧ s23 = .int .i64 j ∧ s21 = .int .i64 o ∧ Dbs wr w1.heap.size B (k + ec) k (fun j => H + j) (turns B d o) ∧ Below w.heap.size w wr) (fun _ s23 _ => B - (intOf s23).toNat)
              case atStart => exact ⟨0, o, Nat.zero_le _, by rw [HO.out, Nat.add_zero], rfl, rfl, HD.out, BW.out⟩
              case round =>
                clear HD BW
                obtain ⟨j, o2, hj, ho2, rfl, rfl, hd, hbw⟩ := hrel
                obtain ⟨w4, rfl⟩ : ∃ w4 : World, w4 = wr := ⟨_, rfl⟩
                by_cases hjB : j < B
                · have ho2N : o2 < N := by rw [ho2]; exact off_lt2 (show i < k + ec by omega) hjB HN.out
                  have HO2 := Lib.hid ho2; clear ho2
                  have gsl := hd.sl j hjB
                  have grow := hd.rows j hjB
                  have gc := grow.cell (i := i) (by omega)
                  have gf := grow.frozen (i)
                  clear grow
                  have graw := (hbw.cell (p := ⟨cb, o2, none⟩) hcb).trans (HR.out.cell ho2N)
                  have HD := Lib.hid hd; clear hd
                  have BW := Lib.hid hbw; clear hbw
                  go_wp2_with fail
                  refine wp_region_quiet_tail 11 (by kernel_rfl) (by kernel_rfl) ?_
                  simp only [List.take_succ_cons, List.take_zero, List.drop_succ_cons, List.drop_zero]
                  repeat (first | go_big_quiet_step (fail) | quiet_step (fail))
                  refine wpQuiet_nil ?_
                  intro _ hw1q
                  obtain ⟨nq, hw2q⟩ := hw1q
                  subst hw2q
                  go_wp2
                  go_roundw
                  case rel => exact ⟨j + 1, o2 + 1, hjB, by rw [HO2.out]; omega, by go_num, by go_num, HD.out.lay HO2.out hjB _, (BW.out.trans (below_dn _ _ _)).setCell (by show _ ≤ H + j; omega) _⟩
                  case measure => simp [intOf]; omega
                · obtain rfl : B = j := by omega
                  have HO2 := Lib.hid ho2; clear ho2
                  have HD := Lib.hid hd; clear hd
                  have BW := Lib.hid hbw; clear hbw
                  go_wp2
                  go_roundw
                  case rel => exact ⟨i + 1, o2, hik, by rw [HO2.out, Nat.add_mul, Nat.one_mul], by go_num, rfl, HD.out, BW.out⟩
                  case measure => simp [intOf]; omega
            · obtain rfl : i = k - 1 := by omega
              obtain ⟨w4, rfl⟩ : ∃ w4 : World, w4 = wr := ⟨_, rfl⟩
              have v04 := (BW.out.cell (p := ⟨pv, 0, none⟩) hvl).trans v0
              have q24 := int_bf (a := (no : Int)) (b := 24) (by omega)
              go_wp2_with fail
              refine (verNo w4 pv no v04).mono ?_
              rintro e w' ⟨rfl, hw⟩
              obtain rfl := hw
              clear v04
              go_wp2_with fail
              go_loopw [21, 26] (fun s21 s23 wr => ∃ j o : Nat, j ≤ B ∧ o = (k - 1) * B + j ∧ s23 = .int .i64 j ∧ s21 = .int .i64 o ∧ Dbs wr w1.heap.size B (k + ec) k (fun j => H + j) (turns B d o) ∧ Below w.heap.size w wr) (fun _ s23 _ => B - (intOf s23).toNat)
              case atStart => exact ⟨0, o, Nat.zero_le _, by rw [HO.out, Nat.add_zero], rfl, rfl, HD.out, BW.out⟩
              case round =>
                clear HD BW
                obtain ⟨j, o2, hj, ho2, rfl, rfl, hd, hbw⟩ := hrel
                obtain ⟨w4, rfl⟩ : ∃ w4 : World, w4 = wr := ⟨_, rfl⟩
                by_cases hjB : j < B
                · have ho2N : o2 < N := by rw [ho2]; exact off_lt2 (show k - 1 < k + ec by omega) hjB HN.out
                  have HO2 := Lib.hid ho2; clear ho2
                  have gsl := hd.sl j hjB
                  have grow := hd.rows j hjB
                  have gc := grow.cell (i := (k - 1)) (by omega)
                  have gf := grow.frozen ((k - 1))
                  clear grow
                  have graw := (hbw.cell (p := ⟨cb, o2, none⟩) hcb).trans (HR.out.cell ho2N)
                  have HD := Lib.hid hd; clear hd
                  have BW := Lib.hid hbw; clear hbw
                  have i1 : ((k : Int) - 1).toNat = k - 1 := by omega
                  go_wp2_with fail
                  refine wp_region_quiet_tail 12 (by kernel_rfl) (by kernel_rfl) ?_
                  simp only [List.take_succ_cons, List.take_zero, List.drop_succ_cons, List.drop_zero]
                  repeat (first | go_big_quiet_step (fail) | quiet_step (fail))
                  refine wpQuiet_nil ?_
                  intro _ hw1q
                  obtain ⟨nq, hw2q⟩ := hw1q
                  subst hw2q
                  go_wp2
                  go_roundw
                  case rel => exact ⟨j + 1, o2 + 1, hjB, by rw [HO2.out]; omega, by go_num, by go_num, HD.out.lay HO2.out hjB _, (BW.out.trans (below_dn _ _ _)).setCell (by show _ ≤ H + j; omega) _⟩
                  case measure => simp [intOf]; omega
                · obtain rfl : B = j := by omega
                  have HO2 := Lib.hid ho2; clear ho2
                  have HD := Lib.hid hd; clear hd
                  have BW := Lib.hid hbw; clear hbw
                  have hkB : o2 = k * B := by
                    rw [HO2.out, show k = k - 1 + 1 by omega, Nat.add_sub_cancel, Nat.add_mul, Nat.one_mul]
                  clear HO2
                  have HKB := Lib.hid hkB; clear hkB
                  have s0 := HD.out.sl 0 hB.1
                  rw [show 0 * 2 + 1 = 1 from rfl] at s0
                  go_wp2_with fail
                  clear s0
                  go_loopw [21, 28] (fun s21 s28 wr => ∃ i o : Nat, k ≤ i ∧ i ≤ k + ec ∧ o = i * B ∧ s28 = .int .i64 i ∧ s21 = .int .i64 o ∧ Dbs wr w1.heap.size B (k + ec) k (fun j => H + j) (turns B d o) ∧ Below w.heap.size w wr) (fun _ s28 _ => k + ec - (intOf s28).toNat)
                  case atStart => exact ⟨k, o2, Nat.le_refl _, by omega, HKB.out, rfl, rfl, HD.out, BW.out⟩
                  case round =>
                    clear HD BW HKB
                    obtain ⟨i, o, hki, hin, ho, rfl, rfl, hd, hbw⟩ := hrel
                    have HO := Lib.hid ho; clear ho
                    have HD := Lib.hid hd; clear hd
                    have BW := Lib.hid hbw; clear hbw
                    by_cases hin2 : i < k + ec
                    · go_wp2_with fail
                      go_loopw [21, 29] (fun s21 s23 wr => ∃ j o : Nat, j ≤ B ∧ o = i * B + j ∧ s23 = .int .i64 j ∧ s21 = .int .i64 o ∧ Dbs wr w1.heap.size B (k + ec) k (fun j => H + j) (turns B d o) ∧ Below w.heap.size w wr) (fun _ s23 _ => B - (intOf s23).toNat)
                      case atStart => exact ⟨0, o, Nat.zero_le _, by rw [HO.out, Nat.add_zero], rfl, rfl, HD.out, BW.out⟩
                      case round =>
                        clear HD BW
                        obtain ⟨j, o2, hj, ho2, rfl, rfl, hd, hbw⟩ := hrel
                        obtain ⟨w4, rfl⟩ : ∃ w4 : World, w4 = wr := ⟨_, rfl⟩
                        by_cases hjB : j < B
                        · have ho2N : o2 < N := by rw [ho2]; exact off_lt2 hin2 hjB HN.out
                          have HO2 := Lib.hid ho2; clear ho2
                          have gsl := hd.sl j hjB
                          have grow := hd.rows j hjB
                          have gc := grow.cell (i := i) (by omega)
                          have gf := grow.frozen (i)
                          clear grow
                          have graw := (hbw.cell (p := ⟨cb, o2, none⟩) hcb).trans (HR.out.cell ho2N)
                          have HD := Lib.hid hd; clear hd
                          have BW := Lib.hid hbw; clear hbw
                          go_wp2_with fail
                          refine wp_region_quiet_tail 11 (by kernel_rfl) (by kernel_rfl) ?_
                          simp only [List.take_succ_cons, List.take_zero, List.drop_succ_cons, List.drop_zero]
                          repeat (first | go_big_quiet_step (fail) | quiet_step (fail))
                          refine wpQuiet_nil ?_
                          intro _ hw1q
                          obtain ⟨nq, hw2q⟩ := hw1q
                          subst hw2q
                          go_wp2
                          go_roundw
                          case rel => exact ⟨j + 1, o2 + 1, hjB, by rw [HO2.out]; omega, by go_num, by go_num, HD.out.lay HO2.out hjB _, (BW.out.trans (below_dn _ _ _)).setCell (by show _ ≤ H + j; omega) _⟩
                          case measure => simp [intOf]; omega
                        · obtain rfl : B = j := by omega
                          have HO2 := Lib.hid ho2; clear ho2
                          have HD := Lib.hid hd; clear hd
                          have BW := Lib.hid hbw; clear hbw
                          go_wp2
                          go_roundw
                          case rel => exact ⟨i + 1, o2, by omega, by omega, by rw [HO2.out, Nat.add_mul, Nat.one_mul], by go_num, rfl, HD.out, BW.out⟩
                          case measure => simp [intOf]; omega
                    · obtain rfl : i = k + ec := by omega
                      obtain rfl : o = N := by rw [HO.out]; exact HN.out
                      go_wp2
                      go_ret2
                      exact ⟨_, _, rfl, HD.out.fin HN.out, hrb, fun j _ => by show _ ≤ H + j; omega, BW.out⟩
end Go.Proofs.YtcnallabiffemaaGreatDoor
namespace Go.Proofs.YtcnallabiffemaaGreatDoor
open Go.RowKit (wrap32 wrap64 intOf Hid Below)
open Zx

theorem info32 : (Tryz.prog.info? 32).map (fun i => (i.zero, i.size, i.bytes)) = some (some (.slice none 0 0), 1, 24) := by kernel_rfl

theorem bytOff (w : World) (s bb n i o : Nat) (d : Nat → Nat) (h : Src w s bb n i o d) : Calls Tryz.prog 184 #[pt s] w fun e w' => e = .returned (.int .i64 i) ∧ w = w' := by
  have b1 : w.cell? ⟨s, 1, none⟩ = some (.int .i64 i) := h.box.cell (i := 1) (by omega)
  clear h
  go_enter Tryz.func184, Tryz.ntmps184
  go_wp2
  go_ret
  exact ⟨rfl, rfl⟩

theorem unrs_eq (d : Nat → Nat) (n j c : Nat) (h : j + c ≤ n) : unrs j ((ds d n j).take c) = (List.range c).map fun t => unr (d (j + t)) (j + t + 1) := by
  induction c generalizing j with
  | zero => rfl
  | succ c ih =>
    rw [ds_cons d n j (by omega), List.take_succ_cons, unrs, ih (j + 1) (by omega), List.range_succ_eq_map, List.map_cons, List.map_map]
    congr 1
    refine List.map_congr_left fun t _ => ?_
    show unr (d (j + 1 + t)) (j + 1 + t + 1) = unr (d (j + (t + 1))) (j + (t + 1) + 1)
    rw [show j + 1 + t = j + (t + 1) by omega]

/-- a run of bytes: c of them from byte j on -/
def BasAt (d : Nat → Nat) (n i : Nat) (out : List Nat) (k j c : Nat) : Prop := i < j ∧ j + c ≤ n ∧ out = ((List.range c).map fun t => unr (d (j + t)) (j + t + 1)) ∧ i + k = j + c
theorem bas_at {d : Nat → Nat} {n i k : Nat} {out : List Nat} (hi : i < n) (h : dBas i (ds d n i) = some (out, k)) :
    (unr (d i) (i + 1) = 0 ∧ BasAt d n i out k (i + 1) (n - (i + 1))) ∨ (unr (d i) (i + 1) ≠ 0 ∧ unr (d i) (i + 1) < 250 ∧ BasAt d n i out k (i + 1) (unr (d i) (i + 1))) ∨
      (250 ≤ unr (d i) (i + 1) ∧ i + 1 < n ∧ BasAt d n i out k (i + 2) (250 * (unr (d i) (i + 1) - 249) + unr (d (i + 1)) (i + 2))) := by
  rw [ds_cons d n i hi, dBas.eq_def] at h
  simp only at h
  by_cases h1 : unr (d i) (i + 1) = 0
  · rw [if_pos h1] at h
    have h2 := Option.some.inj h
    have h3 : _ = out := congrArg (fun x => x.1) h2
    have h4 : 1 + _ = k := congrArg (fun x => x.2) h2
    rw [ds_len] at h4
    refine .inl ⟨h1, by omega, by omega, ?_, by omega⟩
    rw [← unrs_eq d n (i + 1) (n - (i + 1)) (by omega), List.take_of_length_le (by rw [ds_len]; exact Nat.le_refl _)]
    exact h3.symm
  · rw [if_neg h1] at h
    by_cases h2 : unr (d i) (i + 1) < 250
    · rw [if_pos h2] at h
      by_cases h3 : unr (d i) (i + 1) ≤ (ds d n (i + 1)).length
      · rw [if_pos h3] at h
        rw [ds_len] at h3
        have h4 := Option.some.inj h
        have h5 : _ = out := congrArg (fun x => x.1) h4
        have h6 : 1 + _ = k := congrArg (fun x => x.2) h4
        refine .inr (.inl ⟨h1, h2, by omega, by omega, ?_, by omega⟩)
        rw [← unrs_eq d n (i + 1) _ (by omega)]
        exact h5.symm
      · rw [if_neg h3] at h; cases h
    · rw [if_neg h2] at h
      rcases Nat.lt_or_ge (i + 1) n with h3 | h3
      · rw [ds_cons d n (i + 1) h3] at h
        simp only at h
        by_cases h4 : 250 * (unr (d i) (i + 1) - 249) + unr (d (i + 1)) (i + 2) ≤ (ds d n (i + 1 + 1)).length
        · rw [if_pos h4] at h
          rw [ds_len] at h4
          have h5 := Option.some.inj h
          have h6 : _ = out := congrArg (fun x => x.1) h5
          have h7 : 2 + _ = k := congrArg (fun x => x.2) h5
          refine .inr (.inr ⟨by omega, h3, by omega, by omega, ?_, by omega⟩)
          rw [← unrs_eq d n (i + 2) _ (by omega)]
          exact h6.symm
        · rw [if_neg h4] at h; cases h
      · rw [ds_nil d n (i + 1) h3] at h; cases h
theorem unr_lt (b p : Nat) : unr b p < 256 := by unfold unr; omega

/-- what a run of bytes leaves -/
def BasTo (w : World) (s bb n lim : Nat) (d : Nat → Nat) (base : Nat) (v0 vs0 : Value) (i : Nat) (l : List Nat) (e : Ending) (w' : World) : Prop :=
  ∃ v vs xs, e = .returned (.tuple #[v, vs, .nilIface]) ∧ Src w' s bb n i 0 d ∧ OwnB w' base v l ∧ OwnV w' 32 base vs xs ∧ (∀ b, v.ownBlock = some b → vs.ownBlock ≠ some b) ∧ xs.length ≤ lim ∧
    But (fun b => SegS s v0 b ∨ vs0.ownBlock = some b) w w' ∧ (v.ownBlock = v0.ownBlock ∨ ∃ b, v.ownBlock = some b ∧ w.heap.size ≤ b) ∧ (vs.ownBlock = vs0.ownBlock ∨ ∃ b, vs.ownBlock = some b ∧ w.heap.size ≤ b)
theorem Gr.vs {w wr : World} {q s bb n i o base : Nat} {d : Nat → Nat} {v0 v vs : Value} {l : List Nat} {xs : List Value} (h : Gr w q s bb n d base v0 wr i o v l) (hvs : OwnV w 32 base vs xs) (hne : ∀ b, v0.ownBlock = some b → vs.ownBlock ≠ some b) : OwnV wr 32 base vs xs :=
  hvs.keep h.but fun k hk hs => by
    rcases hs with hs | hs
    · have := (hvs.lt hk).1; have := h.lts.1; omega
    · exact hne k hs hk
theorem basTo_mk {w wr w5 w6 w7 : World} {q s bb n i base lim : Nat} {d : Nat → Nat} {v vs v' vs' : Value} {l out : List Nat} {xs : List Value} {y : Value} {ob : Obj} (G : Gr w q s bb n d base v wr i 0 v l) (hvs : OwnV w 32 base vs xs)
    (hne : ∀ b, v.ownBlock = some b → vs.ownBlock ≠ some b) (hxs : xs.length < lim) (h5 : AppTo (wr.alloc ob) w5 32 base vs vs' (xs ++ [y])) (h6 : Below w5.heap.size w5 w6) (h7 : AppTo w6 w7 5 base v v' (l.map byt ++ out.map byt)) :
    BasTo w s bb n lim d base v vs i (l ++ out) (.returned (.tuple #[v', vs', .nilIface])) w7 := by
  have t5 := h5.toA
  have t7 := h7.to
  have lts := G.lts
  have nvs : ∀ k, vs.ownBlock = some k → k ≠ s ∧ k ≠ bb := fun k hk => by have := (hvs.lt hk).1; omega
  have nv : ∀ k, v.ownBlock = some k → k ≠ s ∧ k ≠ bb := fun k hk => by have := (G.own.lt hk).1; omega
  have z5 := t5.but.size
  have z6 := h6.size
  have z0 := G.but.size
  have d5 : ∀ k, v.ownBlock = some k → vs'.ownBlock ≠ some k := fun k hk hk' => by
    rcases t5.at_ with h1 | ⟨c, h1, h2⟩
    · exact hne k hk (h1.symm.trans hk')
    · rw [h1] at hk'; cases hk'; have := (G.v0lt _ hk).2; omega
  have o5 := (t5.own.below h6).keep h7.but fun k hk hv => d5 k hv hk
  refine ⟨v', vs', _, rfl, ?_, by have := h7.own; rw [← List.map_append] at this; exact this, o5, fun k hk hk' => ?_, by rw [List.length_append, List.length_singleton]; omega, ?_, ?_, ?_⟩
  · have b5 : w5.rowIs s 248 3 (srcBox bb n i 0) := t5.but.row G.src.box fun hk => (nvs s hk).1 rfl
    have r5 : w5.rowIs bb 5 n (fun j => .int .u8 (d j)) := t5.but.row G.src.row fun hk => (nvs bb hk).2 rfl
    exact ⟨h7.but.row (rowIs_below b5 h6 b5.lt) fun hk => (nv s hk).1 rfl, h7.but.row (rowIs_below r5 h6 r5.lt) fun hk => (nv bb hk).2 rfl, G.src.lt, G.src.n1, G.src.ne⟩
  · have l5 := (t5.own.lt hk').2
    rcases h7.at_ with h1 | h1
    · exact d5 k (h1.symm.trans hk) hk'
    · rw [h1] at hk; cases hk; omega
  · have b5 : But (fun b => SegS s v b ∨ vs.ownBlock = some b) w w5 := (G.but.weak fun _ _ h => .inl h).trans (t5.but.weak fun _ _ h => .inr h)
    refine (b5.thenAll h6).trans (h7.but.weak fun _ _ h => .inl (.inr h))
  · rcases t7.at_ with h1 | ⟨c, h1, h2⟩
    · exact .inl h1
    · exact .inr ⟨c, h1, by omega⟩
  · rcases t5.at_ with h1 | ⟨c, h1, h2⟩
    · exact .inl h1
    · exact .inr ⟨c, h1, by omega⟩
end Go.Proofs.YtcnallabiffemaaGreatDoor
