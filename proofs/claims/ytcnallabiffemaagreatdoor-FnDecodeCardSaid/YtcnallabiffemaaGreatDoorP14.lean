import Derived.Test.YtcnallabiffemaaGreatDoorM36
import Derived.Test.YtcnallabiffemaaGreatDoorP13
/- Part of the proof that a Data Matrix symbol of a text, damaged at most to half of its check codewords in each block, is decoded to the text (FnDecode): texts Y9. -/
set_option linter.unusedVariables false
set_option linter.unusedSimpArgs false
namespace Go.Proofs.YtcnallabiffemaaGreatDoor
open Go.RowKit (wrap32 wrap64 intOf Hid Below)
open Zx

def DrTo (w : World) (s : Sym) (out : List F) (e : Ending) (w' : World) : Prop :=
  ∃ (m : Nat) (r : Nat → Nat) (g : Nat → Nat → Nat), e = .returned (.slice (some ⟨m, 0, none⟩) s.rows s.rows) ∧ Mat w' m r s.rows s.cols g ∧ ShowsM s g out ∧ Below w.heap.size w w'


theorem w64m (n : Nat) (h : n ≤ 100000) : wrap64 (n : Int) = (n : Int) := IntWalk.wrap64_in _ (by omega)

set_option maxRecDepth 100000 in
set_option maxHeartbeats 8000000 in
theorem drawnC (w : World) (s : Sym) (hs : SymLay s) (vw : Value) (out : List F) (hvw : Rd w vw (out.map (·.v))) (hlo : out.length = s.data + s.check) : Calls Tryz.prog 13 #[sv s, vw] w (DrTo w s out) := by
  have ec := fun w' row col => edgeC w' s hs.fine row col
  have pc := fun w' => placedC w' s hs
  have wc := fun w' row col h1 h2 => whereC w' s hs.fine row col h1 h2
  have hge := hs.fine.ge
  have hll := hs.len
  have hl8 := lay_len s.R s.C
  have hbd := hs.bd
  have hsp1 := fun x (hx : x < s.R) => spot_lt hs.fine.rw_.2.2.2.2.2.2.1 hs.fine.rw_.2.2.2.2.1 hs.fine.rc_.1 hs.fine.rw_.1 hx
  have hsp2 := fun x (hx : x < s.C) => spot_lt hs.fine.rw_.2.2.2.2.2.2.2 hs.fine.rw_.2.2.2.2.2.1 hs.fine.rc_.2 hs.fine.rw_.2.1 hx
  have hdc := hs.fine.dc
  unfold DrTo PcTo at *
  unfold sv at *
  obtain ⟨H, hH⟩ : ∃ H, s.rows = H := ⟨_, rfl⟩
  obtain ⟨W, hW⟩ : ∃ W, s.cols = W := ⟨_, rfl⟩
  obtain ⟨R, hR⟩ : ∃ R, s.R = R := ⟨_, rfl⟩
  obtain ⟨C, hC⟩ : ∃ C, s.C = C := ⟨_, rfl⟩
  obtain ⟨N, hN⟩ : ∃ N, R * C = N := ⟨_, rfl⟩
  simp only [hH, hW, hR, hC, hN] at ec pc wc hge hbd hsp1 hsp2 ⊢
  have hl8' : Hid (∀ sh ∈ layN s.R s.C, sh.length = 8) := Lib.hid hl8; clear hl8
  have HRC := Lib.hid (And.intro hR (And.intro hC hN)); clear hR hC hN hH hW
  have EC := Lib.hid ec; clear ec
  have PC := Lib.hid pc; clear pc
  have WC := Lib.hid wc; clear wc
  have HS1 := Lib.hid hsp1; clear hsp1
  have HS2 := Lib.hid hsp2; clear hsp2
  have HLL := Lib.hid hll; clear hll
  have HLO := Lib.hid hlo; clear hlo
  clear hs
  obtain ⟨gw, cw, rfl, hgw, hwcell⟩ := hvw
  have hL : (out.map (·.v)).length = out.length := List.length_map _
  rw [hL]
  obtain ⟨L, hLL⟩ : ∃ L, out.length = L := ⟨_, rfl⟩
  rw [hLL]
  have HL := Lib.hid hLL; clear hLL hL
  have HWC := Lib.hid hwcell; clear hwcell
  obtain ⟨w1, hw1⟩ : ∃ w1, w.alloc (.cells #[num H, num W, num s.down, num s.across, num s.data, num s.check, num s.blocks] 27) = w1 := ⟨_, rfl⟩
  have cb : ∀ i, w1.cell? ⟨w.heap.size, i, none⟩ = (#[num H, num W, num s.down, num s.across, num s.data, num s.check, num s.blocks])[i]? := fun i => by rw [← hw1]; exact World.cell?_alloc_new w _ _ i
  have z1 : Hid (w1.heap.size = w.heap.size + 1 ∧ Below w.heap.size w w1) := Lib.hid (by rw [← hw1]; exact ⟨World.size_alloc _ _, (Below.refl _ _).alloc (Nat.le_refl _) _⟩)
  have hz := z1.out.1
  have c0 := cb 0
  simp only [List.getElem?_toArray, List.getElem?_cons_zero] at c0
  have CB := Lib.hid cb; clear cb
  have hmA := run_make_row' (P := Tryz.prog) 37 32 (.slice none 0 0) 24 Tryz.underlying37 info32 rfl .i64 .i64 H (by omega) (by omega)
  have hmB := run_make_row' (P := Tryz.prog) 32 5 (.int .u8 0) 1 Tryz.underlying32 infoB rfl .i64 .i64 W (by omega) (by omega)
  have mk0 := Lib.hid (MxK.start w1 H W)
  go_enter Tryz.func13, Tryz.ntmps13
  go_wp2_with fail
  clear hw1 c0 hmA
  rw [hz] at mk0
  clear hz
  obtain ⟨m, hm⟩ : ∃ m, w.heap.size + 1 = m := ⟨_, rfl⟩
  rw [hm] at mk0 ⊢
  have HM := Lib.hid hm; clear hm
  go_loopw [21] (fun s21 wr => ∃ (k : Nat) (r : Nat → Nat) (g : Nat → Nat → Nat), k ≤ H ∧ s21 = .int .i64 k ∧ MxK w1 wr m r H W k g) (fun s21 _ => H - (intOf s21).toNat)
  case atStart => exact ⟨0, _, _, Nat.zero_le _, rfl, mk0.out⟩
  case round =>
    clear mk0
    obtain ⟨k, r, g, hk, rfl, hmk⟩ := hrel
    obtain ⟨w2, rfl⟩ : ∃ w2 : World, w2 = wr := ⟨_, rfl⟩
    by_cases hkH : k < H
    · have hbox : w.heap.size < w1.heap.size := by rw [z1.out.1]; exact Nat.lt_succ_self _
      have d1 := (hmk.bel.cell (p := ⟨w.heap.size, 1, none⟩) hbox).trans (CB.out 1)
      simp only [List.getElem?_toArray, List.getElem?_cons_zero, List.getElem?_cons_succ] at d1
      have mkA := hmk.below (w' := w2.alloc (.cells (madeCells #[.int .u8 0] W) 5)) ((Below.refl _ _).alloc (Nat.le_refl _) _)
      have f1 := mkA.top.frozen k
      have g1 := mkA.top.cell hkH
      rw [if_neg (Nat.lt_irrefl k)] at g1
      have mkB := hmk.more
      have g2 := mkB.rs hkH (Nat.lt_succ_self k)
      rw [if_pos rfl] at g2
      have MB := Lib.hid mkB; clear mkB mkA hmk
      go_wp2_with fail
      clear d1 f1 g1 g2
      go_loopw [35] (fun s35 wr => ∃ (t : Nat) (g : Nat → Nat → Nat), t ≤ W ∧ s35 = .int .i64 t ∧ MxK w1 wr m (fun y => if y = k then w2.heap.size else r y) H W (k + 1) g) (fun s35 _ => W - (intOf s35).toNat)
      case atStart => exact ⟨0, _, Nat.zero_le _, rfl, MB.out⟩
      case round =>
        clear MB
        obtain ⟨t, g, ht, rfl, hmk⟩ := hrel
        obtain ⟨w3, rfl⟩ : ∃ w3 : World, w3 = wr := ⟨_, rfl⟩
        generalize hrr : (fun y => if y = k then w2.heap.size else r y) = r2 at hmk
        have hrk : w2.heap.size = r2 k := by rw [← hrr]; simp
        have HRR := Lib.hid hrr; clear hrr
        have HRK := Lib.hid hrk; clear hrk
        by_cases htW : t < W
        · have dd := fun i => (hmk.bel.cell (p := ⟨w.heap.size, i, none⟩) hbox).trans (CB.out i)
          have d0 := dd 0
          have d1 := dd 1
          have d2 := dd 2
          have d3 := dd 3
          have d4 := dd 4
          have d5 := dd 5
          have d6 := dd 6
          simp only [List.getElem?_toArray, List.getElem?_cons_zero, List.getElem?_cons_succ] at d0 d1 d2 d3 d4 d5 d6
          clear dd
          have e1 := hmk.rs hkH (Nat.lt_succ_self k)
          have hrow := hmk.row k (Nat.lt_succ_self k)
          have f1 := hrow.frozen t
          have g1 := hrow.cell htW
          have HROW := Lib.hid hrow; clear hrow
          have HMK := Lib.hid hmk; clear hmk
          go_wp2_with fail
          go_region_with ((go_at_call 33; refine (EC.out _ k t).mono ?_; rintro e w4 ⟨z, bo, rfl, hz0, hz1, hb4⟩; have HB4 := Lib.hid (show Below w3.heap.size w3 w4 from ⟨hb4.os, hb4.tape, hb4.output, hb4.size, hb4.block⟩); clear hb4; have e2 := (HB4.out.cell (p := ⟨m, k, none⟩) HMK.out.top.lt).trans e1; have hrow4 := rowIs_below HROW.out HB4.out HROW.out.lt; have f2 := hrow4.frozen t; have g3 := hrow4.cell htW; clear hrow4))
          all_goals
            have key := (HMK.out.below HB4.out).put (Nat.lt_succ_self k) t z.toNat
            rw [show byt z.toNat = .int .u8 z from val_int (Int.toNat_of_nonneg hz0)] at key
            have KEY := Lib.hid key; clear key
            go_wp2
            go_roundw
            case rel => exact ⟨t + 1, _, htW, by go_num, by first | exact KEY.out | exact KEY.out.below (below_dn _ _ 1)⟩
            case measure => simp [intOf]; omega
        · obtain rfl : t = W := by omega
          have HMK := Lib.hid hmk; clear hmk
          go_wp2
          go_roundw
          case rel => exact ⟨k + 1, _, _, hkH, by go_num, HMK.out⟩
          case measure => simp [intOf]; omega
    · obtain rfl : k = H := by omega
      have hbox : w.heap.size < w1.heap.size := by rw [z1.out.1]; exact Nat.lt_succ_self _
      have dd := fun i => (hmk.bel.cell (p := ⟨w.heap.size, i, none⟩) hbox).trans (CB.out i)
      have d0 := dd 0
      have d1 := dd 1
      have d2 := dd 2
      have d3 := dd 3
      have d4 := dd 4
      have d5 := dd 5
      have d6 := dd 6
      simp only [List.getElem?_toArray, List.getElem?_cons_zero, List.getElem?_cons_succ] at d0 d1 d2 d3 d4 d5 d6
      clear dd hkH hk hmB
      have HMK := Lib.hid hmk; clear hmk
      go_wp2_with fail
      refine (PC.out _).mono ?_
      rintro e w3 ⟨bb, G, rfl, hrow, hfin, hbb, hbel⟩
      have hrlt : ∀ y, y < k → r y < bb := fun y hy => Nat.lt_of_lt_of_le (HMK.out.row y hy).lt hbb
      have HMK3 := Lib.hid (HMK.out.below hbel)
      have HRLT := Lib.hid hrlt; clear hrlt hbel hbb
      have HROW := Lib.hid hrow; clear hrow
      have HFIN := Lib.hid hfin; clear hfin
      have hmbb : m ≠ bb := fun h => by
        have := HRLT.out 0 (by omega)
        have := HMK.out.ord 0 (by omega); omega
      clear HMK d0 d1 d2 d3 d4 d5 d6
      go_wp2_with fail
      go_loopw [60] (fun s60 wr => ∃ (y : Nat) (g : Nat → Nat → Nat), y ≤ R ∧ s60 = .int .i64 y ∧ MxK w1 wr m r k W k g ∧ wr.rowIs bb 3 N (fun i => .int .i64 (G i)) ∧ Shown s G out g y 0) (fun s60 _ => R - (intOf s60).toNat)
      case atStart => exact ⟨0, _, Nat.zero_le _, rfl, HMK3.out, HROW.out, fun y x _ _ h _ => by omega⟩
      case round =>
        clear HMK3 HROW
        obtain ⟨y, g, hy, rfl, hmk, hrow, hsh⟩ := hrel
        obtain ⟨w4, rfl⟩ : ∃ w4 : World, w4 = wr := ⟨_, rfl⟩
        have HMK := Lib.hid hmk; clear hmk
        have HROW := Lib.hid hrow; clear hrow
        have HSH := Lib.hid hsh; clear hsh
        by_cases hyR : y < R
        · go_wp2_with fail
          go_loopw [64] (fun s64 wr => ∃ (x : Nat) (g : Nat → Nat → Nat), x ≤ C ∧ s64 = .int .i64 x ∧ MxK w1 wr m r k W k g ∧ wr.rowIs bb 3 N (fun i => .int .i64 (G i)) ∧ Shown s G out g y x) (fun s64 _ => C - (intOf s64).toNat)
          case atStart => exact ⟨0, _, Nat.zero_le _, rfl, HMK.out, HROW.out, HSH.out⟩
          case round =>
            clear HMK HROW HSH
            obtain ⟨x, g, hx, rfl, hmk, hrow, hsh⟩ := hrel
            obtain ⟨w5, rfl⟩ : ∃ w5 : World, w5 = wr := ⟨_, rfl⟩
            by_cases hxC : x < C
            · have wcc := WC.out w5 y x hyR hxC
              have hsy := HS1.out y hyR
              have hsx := HS2.out x hxC
              have hst := fun v hv => Shown.step hsh v hv
              have hsk := fun hv => Shown.skip hsh hv
              obtain ⟨sy, hsyE⟩ : ∃ sy, y + 1 + 2 * (y / s.rr) = sy := ⟨_, rfl⟩
              obtain ⟨sx, hsxE⟩ : ∃ sx, x + 1 + 2 * (x / s.rc) = sx := ⟨_, rfl⟩
              obtain ⟨P, hP⟩ : ∃ P, y * C = P := ⟨_, rfl⟩
              simp only [hsyE, hsxE, HRC.out.2.1, hP] at wcc hsy hsx hst hsk
              have m1 : (y : Int) * (C : Int) = (P : Int) := by rw [← hP]; simp
              have hPN : P + x < N := by
                have := Nat.mul_le_mul_right C (show y + 1 ≤ R from hyR)
                rw [Nat.add_mul, Nat.one_mul, HRC.out.2.2, hP] at this; omega
              have hNl : N ≤ 14400 := by rw [← HRC.out.2.2]; exact Nat.mul_le_mul hbd.2.1 hbd.2.2.2
              clear hsyE hsxE hP hsh
              have dd := fun i => (hmk.bel.cell (p := ⟨w.heap.size, i, none⟩) hbox).trans (CB.out i)
              have d0 := dd 0
              have d1 := dd 1
              have d2 := dd 2
              have d3 := dd 3
              have d4 := dd 4
              have d5 := dd 5
              have d6 := dd 6
              simp only [List.getElem?_toArray, List.getElem?_cons_zero, List.getElem?_cons_succ] at d0 d1 d2 d3 d4 d5 d6
              clear dd
              have HMK := Lib.hid hmk; clear hmk
              have HROW := Lib.hid hrow; clear hrow
              have HST := Lib.hid hst; clear hst
              have HSK := Lib.hid hsk; clear hsk
              have WCC := Lib.hid wcc; clear wcc
              go_wp2_with fail
              refine WCC.out.mono ?_
              rintro e w6 ⟨rfl, hb6⟩
              have mk6 := HMK.out.below hb6
              have row6 := rowIs_below HROW.out hb6 HROW.out.lt
              clear d0 d1 d2 d3 d4 d5 d6 WCC HMK HROW hb6
              have c1 := row6.cell hPN
              have e1 := mk6.rs (Nat.le_refl _) hsy
              have hr1 := mk6.row sy hsy
              have f1 := hr1.frozen sx
              have g1 := hr1.cell hsx
              clear hr1
              have hrs := HRLT.out sy hsy
              have MK6 := Lib.hid mk6
              have ROW6 := Lib.hid row6; clear row6
              have wcl := fun (j : Nat) (u : Value) (hu : ((out.map (·.v)).map num)[j]? = some u) => (mk6.bel.cell (p := ⟨gw, j, none⟩) (show gw < w1.heap.size by rw [z1.out.1]; exact Nat.lt_succ_of_lt hgw)).trans ((z1.out.2.cell (p := ⟨gw, j, none⟩) hgw).trans (HWC.out j u hu))
              have WCL := Lib.hid wcl; clear wcl mk6
              by_cases hm1 : G (P + x) = -1
              · rw [hm1] at c1
                have put := Lib.hid (MK6.out.put hsy sx 1)
                have HS := Lib.hid (HST.out 1 (fun h => by rw [hm1] at h; exact absurd h (by decide)))
                have R2 := Lib.hid (ROW6.out.setOther (a := ⟨r sy, sx, none⟩) (show ¬ bb = r sy by omega) (byt 1))
                clear hm1
                go_wp2
                go_roundw
                case rel => exact ⟨x + 1, _, hxC, by go_num, put.out, R2.out, HS.out⟩
                case measure => simp [intOf]; omega
              · by_cases hm0 : 0 ≤ G (P + x)
                · obtain ⟨B, hB⟩ : ∃ B : Nat, G (P + x) = (B : Int) := ⟨(G (P + x)).toNat, by omega⟩
                  have hBl : B < 8 * L := by
                    have := (HFIN.out.bd (P + x)).2
                    have h1 := HLL.out
                    rw [HRC.out.1, HRC.out.2.1] at h1
                    rw [hB, h1, ← HLO.out, HL.out] at this; omega
                  rw [hB] at c1
                  obtain ⟨b8, hb8⟩ : ∃ b8, B / 8 = b8 := ⟨_, rfl⟩
                  obtain ⟨t, ht⟩ : ∃ t, B % 8 = t := ⟨_, rfl⟩
                  obtain ⟨n7, hn7⟩ : ∃ n7, 7 - t = n7 := ⟨_, rfl⟩
                  have q1 : ((B : Int) / 8).toNat = b8 := by omega
                  have q2 : (0 : Int) ≤ (B : Int) / 8 := by omega
                  have q3 : (B : Int) / 8 < (L : Int) := by omega
                  have q4 : 7 - B % 8 = n7 := by omega
                  have hB18 : B ≤ 14400 := by have := HLO.out; rw [HL.out] at this; omega
                  have hn7l : n7 ≤ 7 := by omega
                  have hb8L : b8 < L := by omega
                  have hL18 : L ≤ 1800 := by have := HLO.out; rw [HL.out] at this; omega
                  obtain ⟨Wd, hWd⟩ : ∃ Wd, (hi out b8).v = Wd := ⟨_, rfl⟩
                  have hWl : Wd < 256 := by rw [← hWd]; exact (hi out b8).lt
                  have c2 := WCL.out b8 (num Wd) (by
                    rw [List.getElem?_map, List.getElem?_map, List.getElem?_eq_getElem (by rw [HL.out]; exact hb8L)]
                    show some (num (out[b8]'(by rw [HL.out]; exact hb8L)).v) = some (num Wd)
                    rw [← hWd]; unfold hi
                    rw [List.getD_eq_getElem?_getD, List.getElem?_eq_getElem (by rw [HL.out]; exact hb8L)]; rfl)
                  have hbn : bitN out B = Wd / 2 ^ n7 % 2 := by unfold bitN; rw [hb8, ht, hn7, hWd]
                  obtain ⟨β, hβ⟩ : ∃ β, Wd / 2 ^ n7 % 2 = β := ⟨_, rfl⟩
                  have hβl : β ≤ 1 := by omega
                  have hand : Hid (bits .and .i64 ((Wd : Int) / 2 ^ n7) 1 = (β : Int)) := Lib.hid (by
                    rw [and1i, ← hβ, show (2 : Int) ^ n7 = ((2 ^ n7 : Nat) : Int) from (Int.natCast_pow 2 n7).symm]; simp)
                  have hv : Hid (Value.int .u8 (bits .and .i64 ((Wd : Int) / 2 ^ (7 - B % 8)) 1 % 256) = byt β) := Lib.hid (by rw [q4, hand.out]; exact val_int (by omega))
                  clear q4 hand
                  have put := Lib.hid (MK6.out.put hsy sx β)
                  have HS := Lib.hid (HST.out β (fun _ => by rw [hB, Int.toNat_natCast, hbn, hβ]))
                  have R2 := Lib.hid (ROW6.out.setOther (a := ⟨r sy, sx, none⟩) (show ¬ bb = r sy by omega) (byt β))
                  have KX := Lib.hid hxC
                  go_wp2_with fail
                  clear hB hBl hb8 ht hn7 hWd hbn hβ hm1 hm0 hge hdc hPN hNl hrs hmbb m1 c1 hL18 hgw hbox HST HSK
                  refine wp_region_quiet_tail 17 (by kernel_rfl) (by kernel_rfl) ?_
                  simp only [List.take_succ_cons, List.take_zero, List.drop_succ_cons, List.drop_zero]
                  repeat (first | go_big_quiet_step (fail) | quiet_step (fail))
                  refine wpQuiet_nil ?_
                  intro _ hw1q
                  obtain ⟨nq, hw2q⟩ := hw1q
                  subst hw2q
                  go_wp2
                  go_roundw
                  case rel => exact ⟨x + 1, _, KX.out, by go_num, by rw [hv.out]; exact put.out.below (below_dn _ _ nq), by rw [hv.out]; exact R2.out, HS.out⟩
                  case measure => simp [intOf]; have := KX.out; omega
                · have HS := Lib.hid (HSK.out (by omega))
                  obtain ⟨v, hv⟩ : ∃ v, G (P + x) = v := ⟨_, rfl⟩
                  rw [hv] at c1 hm1 hm0
                  have q1 := int_bf (a := v) (b := -1) hm1
                  clear hv
                  go_wp2
                  go_roundw
                  case rel => exact ⟨x + 1, _, hxC, by go_num, MK6.out, ROW6.out, HS.out⟩
                  case measure => simp [intOf]; omega
            · obtain rfl : x = C := by omega
              have HMK := Lib.hid hmk; clear hmk
              have HROW := Lib.hid hrow; clear hrow
              rw [← HRC.out.2.1] at hsh
              have HSH := Lib.hid (Shown.line hsh); clear hsh
              go_wp2
              go_roundw
              case rel => exact ⟨y + 1, _, hyR, by go_num, HMK.out, HROW.out, HSH.out⟩
              case measure => simp [intOf]; omega
        · obtain rfl : y = R := by omega
          go_wp2
          go_ret
          refine ⟨m, r, g, rfl, HMK.out.mat, ?_, z1.out.2.trans (HMK.out.bel.mono (by rw [z1.out.1]; omega))⟩
          have hsh := HSH.out
          have hfin := HFIN.out
          have := HRC.out
          rw [← this.1] at hsh
          rw [← this.1, ← this.2.1] at hfin
          exact Shown.all hsh hfin hl8'.out
end Go.Proofs.YtcnallabiffemaaGreatDoor
