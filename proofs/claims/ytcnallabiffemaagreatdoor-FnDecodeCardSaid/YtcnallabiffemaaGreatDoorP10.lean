import Derived.Defers
import Derived.Recover
import Derived.Lib.SliceRun
import Derived.Test.YtcnallabiffemaaGreatDoorM03
import Derived.Test.YtcnallabiffemaaGreatDoorM04
import Derived.Test.YtcnallabiffemaaGreatDoorM12
import Derived.Test.YtcnallabiffemaaGreatDoorM15
import Derived.Test.YtcnallabiffemaaGreatDoorM21
import Derived.Test.YtcnallabiffemaaGreatDoorM22
import Derived.Test.YtcnallabiffemaaGreatDoorP01
/- Part of the proof that a Data Matrix symbol of a text, damaged at most to half of its check codewords in each block, is decoded to the text (FnDecode): texts U3 U4 U5. -/
set_option linter.unusedVariables false
set_option linter.unusedSimpArgs false
namespace Go.Proofs.YtcnallabiffemaaGreatDoor
open Go.RowKit (wrap32 wrap64 intOf Hid Below)
open Zx

theorem prsVer (w : World) (t pv : Nat) (h : w.cell? ⟨t, 2, none⟩ = some (pt pv)) : Calls Tryz.prog 55 #[pt t] w fun e w' => e = .returned (pt pv) ∧ w = w' := by
  go_enter Tryz.func55, Tryz.ntmps55
  go_wp2
  go_ret
  exact ⟨rfl, rfl⟩
theorem dbNum (w : World) (p k : Nat) (h : w.cell? ⟨p, 0, none⟩ = some (.int .i64 k)) : Calls Tryz.prog 58 #[pt p] w fun e w' => e = .returned (.int .i64 k) ∧ w = w' := by
  go_enter Tryz.func58, Tryz.ntmps58
  go_wp2
  go_ret
  exact ⟨rfl, rfl⟩
theorem dbCw (w : World) (p : Nat) (v : Value) (h : w.cell? ⟨p, 1, none⟩ = some v) : Calls Tryz.prog 59 #[pt p] w fun e w' => e = .returned v ∧ w = w' := by
  go_enter Tryz.func59, Tryz.ntmps59
  go_wp2
  go_ret
  exact ⟨rfl, rfl⟩

def DecTo (w : World) (n : Nat) (d : Nat → Nat) (text : List Nat) (e : Ending) (w' : World) : Prop :=
  ∃ pr rb, e = .returned (.tuple #[pt pr, .nilIface]) ∧ Rslt w' pr (.slice (some ⟨rb, 0, none⟩) n n) (baOf text) ∧ w'.rowIs rb 5 n (fun o => byt (d o)) ∧ Below w.heap.size w w'

/-- the codewords read from a picture -/
def Shows (s : Sym) (ws : Nat → Nat) (out : List F) : Prop := ∀ (K : Nat) (sh : Shp) (j : Nat) (pl : Pl), (layN s.R s.C)[K]? = some sh → sh[j]? = some pl →
  bmAt s.cols ws (pl.2.toNat + 1 + 2 * (pl.2.toNat / s.rc)) (pl.1.toNat + 1 + 2 * (pl.1.toNat / s.rr)) = (hi out K).v.testBit (7 - j)

theorem _root_.Go.World.rowIs.congr' {w : World} {b : Nat} {t : TypeId} {n m : Nat} {f g : Nat → Value} (h : w.rowIs b t n f) (hm : m = n) (hg : ∀ i, i < n → f i = g i) : w.rowIs b t m g := by
  subst hm; exact h.congr hg

/-- the state of the correcting: blocks before j are right -/
def outRow (B : Nat) (d : Nat → Nat) (j i o : Nat) : Value := byt (if o % B < j ∨ (o % B = j ∧ o / B < i) then d o else 0)

theorem dm {B o : Nat} (hB : 0 < B) : o / B * B + o % B = o := by rw [Nat.mul_comm]; exact Nat.div_add_mod o B
theorem dm2 {B i j : Nat} (hj : j < B) : (i * B + j) / B = i ∧ (i * B + j) % B = j := by
  constructor
  · rw [Nat.mul_comm, Nat.mul_add_div (by omega), Nat.div_eq_of_lt hj, Nat.add_zero]
  · rw [Nat.mul_comm, Nat.mul_add_mod, Nat.mod_eq_of_lt hj]
theorem outRow_step (B : Nat) (d : Nat → Nat) (j i : Nat) (hj : j < B) (o : Nat) : (if o = i * B + j then byt (d (i * B + j)) else outRow B d j i o) = outRow B d j (i + 1) o := by
  by_cases h : o = i * B + j
  · rw [if_pos h]
    unfold outRow
    rw [h, (dm2 hj).1, (dm2 hj).2, if_pos (.inr ⟨rfl, by omega⟩)]
  · rw [if_neg h]
    unfold outRow
    have h2 : ¬ (o % B = j ∧ o / B = i) := fun h3 => h (by rw [← h3.1, ← h3.2]; exact (dm (by omega)).symm)
    by_cases h3 : o % B < j ∨ (o % B = j ∧ o / B < i)
    · rw [if_pos h3, if_pos (by omega)]
    · rw [if_neg h3, if_neg (by omega)]
theorem outRow_row (B k : Nat) (d : Nat → Nat) (j o : Nat) (ho : o < B * k) : outRow B d j k o = outRow B d (j + 1) 0 o := by
  unfold outRow
  have h1 : o / B < k := Nat.div_lt_of_lt_mul ho
  generalize o / B = x at h1 ⊢
  generalize o % B = y
  by_cases h3 : y < j ∨ (y = j ∧ x < k)
  · rw [if_pos h3, if_pos (by omega)]
  · rw [if_neg h3, if_neg (by omega)]
theorem outRow_end (B : Nat) (d : Nat → Nat) (o : Nat) (hB : 0 < B) : outRow B d B 0 o = byt (d o) := by
  unfold outRow
  rw [if_pos (.inl (Nat.mod_lt _ hB))]
theorem outRow_start (B : Nat) (d : Nat → Nat) (o : Nat) : outRow B d 0 0 o = byt 0 := by
  unfold outRow
  rw [if_neg (fun h => by rcases h with h | h; exact Nat.not_lt_zero _ h; exact Nat.not_lt_zero _ h.2)]

set_option maxRecDepth 100000 in
set_option maxHeartbeats 4000000 in
theorem decodeC (w : World) (dc p b i : Nat) (hi29 : i < 29) (ws : Nat → Nat) (wF out : List F) (text : List Nat) (hbm : Bm w p b (symAt i).cols (symAt i).rows ws) (hdc : DcOk w dc)
    (hlo : out.length = (symAt i).data + (symAt i).check) (hlw : wF.length = (symAt i).data + (symAt i).check) (hbits : Shows (symAt i) ws out)
    (hcode : ∀ j, j < (symAt i).blocks → ∀ t, 1 ≤ t → t ≤ (symAt i).n → hrn (al t) (blk wF (symAt i).blocks j) = 0) (hhurt : ∀ j, j < (symAt i).blocks → 2 * (er (blk out (symAt i).blocks j) (blk wF (symAt i).blocks j)).length ≤ (symAt i).n)
    (hdec : Dec 1 0 (ds (fun o => (hi wF o).v) (symAt i).data 0) text) (h128 : ∀ c ∈ text, c < 128) (hne : text ≠ []) :
    Calls Tryz.prog 29 #[pt dc, pt p] w (DecTo w (symAt i).data (fun o => (hi wF o).v) text) := by
  have hsz := szOk_at i hi29
  have hve := ver_at i hi29
  have hla := lays_at i hi29
  have hf := symFine i hi29
  have hno : verOf i + 1 ≠ 24 := by unfold verOf; split <;> omega
  generalize symAt i = S at hbm hlo hlw hbits hcode hhurt hdec hsz hve hla hf ⊢
  generalize verOf i = vi at hno hsz hve
  obtain ⟨okd, oks, hlay⟩ := hla
  have hdk := hf.dk
  have hcn := hf.cn
  have hb0 := hf.b0
  have hn0 := hf.n0
  have hk0 := hf.k0
  have hdat : S.data + S.check = (S.k + S.n) * S.blocks := by rw [hdk, hcn, ← Nat.add_mul]
  have htot : totK (verAt vi).ec (verAt vi).bl (verAt vi).bl.length = (layN S.R S.C).length := by
    rw [hve.1, hve.2.1, hlay, hdat]
    show 0 + S.blocks * (S.k + S.n) = _
    rw [Nat.zero_add, Nat.mul_comm]
  have hRC := hf.rc_
  have HDC := Lib.hid hdc; clear hdc
  have HBI := Lib.hid hbits; clear hbits
  have HCO := Lib.hid hcode; clear hcode
  have HHU := Lib.hid hhurt; clear hhurt
  have HDE := Lib.hid hdec; clear hdec
  have H128 := Lib.hid h128; clear h128
  have HNE := Lib.hid hne; clear hne
  have HLO := Lib.hid hlo; clear hlo
  have HLW := Lib.hid hlw; clear hlw
  have HVE := Lib.hid hve; clear hve
  have HLAY := Lib.hid hlay; clear hlay
  have HTOT := Lib.hid htot; clear htot
  have HDAT := Lib.hid hdat; clear hdat
  have HRC := Lib.hid hRC; clear hRC
  have HOKD := Lib.hid okd; clear okd
  have HOKS := Lib.hid oks; clear oks
  have HDK := Lib.hid hdk; clear hdk
  have HCN := Lib.hid hcn; clear hcn
  go_enter Tryz.func29, Tryz.ntmps29
  go_wp2_with fail
  refine (parserC w p b S.rows S.cols S.down S.across S.rr S.rc vi ws hbm hsz).mono ?_
  rintro e w1 ⟨t, rfl, pm, bm, pr, br, pv, wm, hps, hvw, hvk, hlt, hbr, hwm, hb1⟩
  clear hsz
  rw [← HRC.out.1, ← HRC.out.2] at hps hwm
  have c2 := hps.c2
  have HPS := Lib.hid hps; clear hps
  have HVW := Lib.hid hvw; clear hvw
  have HVK := Lib.hid hvk; clear hvk
  have HWM := Lib.hid hwm; clear hwm
  have B1 := Lib.hid hb1; clear hb1
  have HLT := Lib.hid hlt; clear hlt
  go_wp2_with fail
  refine (prsVer w1 t pv c2).mono ?_
  rintro e w' ⟨rfl, hw⟩
  obtain rfl := hw
  clear c2
  have z1 := B1.out.size
  obtain ⟨w0, hq1, q2, hq3⟩ := HVW.out
  have Q1 := Lib.hid hq1; clear hq1
  have Q3 := Lib.hid hq3; clear hq3
  have rdc := readC w0 w1 t pm bm pr br pv S.R S.C wm (verAt vi) HPS.out Q1.out Q3.out q2 HTOT.out HOKD.out HLT.out (by rw [HLAY.out]; have := hf.dc; omega)
  rw [HLAY.out, HDAT.out] at rdc
  go_wp2_with fail
  refine rdc.mono ?_
  rintro e w2 ⟨rfl, hr2, hb2⟩
  clear rdc
  have z2 := hb2.size
  have B2 := Lib.hid (B1.out.trans (hb2.below z1 fun k hk hkb => by omega))
  have HV2 : Hid (VerOk w2 pv (verAt vi)) := Lib.hid (Q1.out.below (Q3.out.trans (hb2.below Q3.out.size fun k hk hkb => by omega)))
  have HR2 : Hid (w2.rowIs w1.heap.size 5 ((S.k + S.n) * S.blocks) (fun o => byt ((hi out o).v))) := Lib.hid (hr2.congr fun o ho => by
    have ho2 : o < (layN S.R S.C).length := by rw [HLAY.out, HDAT.out]; exact ho
    have hget : (layN S.R S.C)[o]? = some ((layN S.R S.C).getD o []) := by rw [List.getD_eq_getElem?_getD, List.getElem?_eq_getElem ho2]; rfl
    have hrd : rdB S.C wm ((layN S.R S.C).getD o []) = (hi out o).v := by
      refine fold_bits (mbit S.C wm) _ _ (lay_len S.R S.C _ (List.mem_of_getElem? hget)) (hi out o).lt fun j pl hj => ?_
      have hin := lay_in HOKS.out hget hj
      have h1 := HWM.out pl.2.toNat pl.1.toNat (by omega) (by omega)
      unfold mbit
      rw [h1]
      exact HBI.out o _ j pl hget hj
    show byt (rdB S.C wm ((layN S.R S.C).getD o [])) = byt (hi out o).v
    rw [hrd])
  clear hr2 hb2
  have bkc := blocksC w2 pv w1.heap.size S.blocks S.k S.n (vi + 1) (verAt vi) (fun o => (hi out o).v) HV2.out HVE.out.2.1 HVE.out.1 HVE.out.2.2 hno HR2.out hb0 ⟨by omega, by omega⟩ ⟨by omega, by omega⟩
  clear HV2 HVK HVW HPS HLT HWM HTOT HOKD Q1 Q3
  go_wp2_with fail
  refine bkc.mono ?_
  rintro e w3 ⟨rb, q, rfl, hdb, hrb, hqj, hb3⟩
  clear bkc
  have B3 := Lib.hid (B2.out.trans (hb3.mono B2.out.size)); clear hb3
  have HDB := Lib.hid hdb; clear hdb
  have HQ := Lib.hid hqj; clear hqj
  have HRB := Lib.hid hrb; clear hrb
  clear HR2 hno HVE
  have z3 := B3.out.size
  have zh := B2.out.size
  have hDat : S.data = S.blocks * S.k := by rw [HDK.out, Nat.mul_comm]
  have hD1 : S.data ≤ 1304 := hf.dc.1
  have HDA := Lib.hid hDat; clear hDat
  have mk := run_make_row' (P := Tryz.prog) 32 5 (.int .u8 0) 1 Tryz.underlying32 infoB rfl .i64 .i64 S.data (by omega) (by omega)
  have HMK := Lib.hid mk; clear mk
  go_wp2_with fail
  go_loopw [13, 47] (fun s13 s47 wr => ∃ t o : Nat, t ≤ S.blocks ∧ o = t * S.k ∧ s47 = .int .i64 t ∧ s13 = .int .i64 o ∧ Below w3.heap.size w3 wr) (fun _ s47 _ => S.blocks - (intOf s47).toNat)
  case atStart => exact ⟨0, 0, Nat.zero_le _, (Nat.zero_mul _).symm, rfl, rfl, Below.refl _ _⟩
  case round =>
    obtain ⟨t, o, ht, ho, rfl, rfl, hb⟩ := hrel
    obtain ⟨w4, rfl⟩ : ∃ w4 : World, w4 = wr := ⟨_, rfl⟩
    have hlt := HDB.out.lt
    have hol : o ≤ 8 * 250 := by rw [ho]; exact Nat.mul_le_mul (by omega) (by omega)
    have HO := Lib.hid ho; clear ho
    have BB := Lib.hid hb; clear hb
    by_cases htB : t < S.blocks
    · have g0 := (BB.out.cell (p := ⟨rb, t * 2, none⟩) hlt).trans (HDB.out.nd t htB)
      have g1 := (BB.out.cell (p := ⟨rb, t * 2 + 1, none⟩) hlt).trans (HDB.out.sl t htB)
      go_wp2_with fail
      refine (dbNum _ w4.heap.size S.k (World.cell?_alloc_new w4 _ _ 0)).mono ?_
      rintro e w' ⟨rfl, hw⟩
      rw [← hw]; clear hw w'
      clear g0 g1
      go_wp2
      go_roundw
      case rel => exact ⟨t + 1, o + S.k, htB, by rw [HO.out, Nat.add_mul, Nat.one_mul], by go_num, by go_num, BB.out.alloc (BB.out.size) _⟩
      case measure => simp [intOf]; omega
    · obtain rfl : t = S.blocks := by omega
      obtain rfl : o = S.data := by rw [HO.out, HDA.out]
      have hmk := HMK.out
      clear HO htB ht hol
      obtain ⟨w5, hw5⟩ : ∃ w5, w4.alloc (.cells (madeCells #[.int .u8 0] S.data) 5) = w5 := ⟨_, rfl⟩
      have r5 := Lib.hid ((World.rowIs_made w4 (.int .u8 0) S.data 5).congr (g := outRow S.blocks (fun o => (hi wF o).v) 0 0) fun o _ => by rw [outRow_start]; rfl)
      have z5 : Hid (w5.heap.size = w4.heap.size + 1) := Lib.hid (by rw [← hw5, World.size_alloc])
      have b45 : Hid (Below w3.heap.size w3 w5) := Lib.hid (by rw [← hw5]; exact BB.out.alloc BB.out.size _)
      rw [hw5] at r5
      have z4 := BB.out.size
      go_wp2_with fail
      clear hw5 hmk
      go_loopw [18] (fun s18 wr => ∃ j : Nat, j ≤ S.blocks ∧ s18 = .int .i64 j ∧ wr.rowIs w4.heap.size 5 S.data (outRow S.blocks (fun o => (hi wF o).v) j 0) ∧ But (fun b => (∃ j', j' < j ∧ b = q j') ∨ b = w4.heap.size) w5 wr) (fun s18 _ => S.blocks - (intOf s18).toNat)
      case atStart => exact ⟨0, Nat.zero_le _, rfl, r5.out, But.refl _ _⟩
      case round =>
        clear r5
        obtain ⟨j, hj, rfl, hrow, hbut⟩ := hrel
        obtain ⟨w6, rfl⟩ : ∃ w6 : World, w6 = wr := ⟨_, rfl⟩
        have R6 := Lib.hid hrow; clear hrow
        have BU := Lib.hid hbut; clear hbut
        have hdlt := HDB.out.lt
        by_cases hjB : j < S.blocks
        · have hz5 := z5.out
          have hzb := b45.out.size
          have nrb : ¬ ((∃ j', j' < j ∧ rb = q j') ∨ rb = w4.heap.size) := by
            rintro (⟨j', h1, h2⟩ | h2)
            · exact HDB.out.ne j' (by omega) h2.symm
            · omega
          have hql := (HDB.out.rows j hjB).lt
          have nqj : ¬ ((∃ j', j' < j ∧ q j = q j') ∨ q j = w4.heap.size) := by
            rintro (⟨j', h1, h2⟩ | h2)
            · have := HDB.out.inj j j' hjB (by omega) h2; omega
            · omega
          have g0 := (BU.out.cell (p := ⟨rb, j * 2, none⟩) (show rb < _ by omega) nrb).trans ((b45.out.cell (p := ⟨rb, j * 2, none⟩) hdlt).trans (HDB.out.nd j hjB))
          have g1 := (BU.out.cell (p := ⟨rb, j * 2 + 1, none⟩) (show rb < _ by omega) nrb).trans ((b45.out.cell (p := ⟨rb, j * 2 + 1, none⟩) hdlt).trans (HDB.out.sl j hjB))
          have rq := BU.out.row (rowIs_below (HDB.out.rows j hjB) b45.out hql) nqj
          have hzu := BU.out.size
          have bw6 : Below w.heap.size w w6 := (B3.out.trans (b45.out.mono z3)).trans (BU.out.below (by omega) fun x hx h => by
            rcases h with ⟨j', h1, h2⟩ | h2
            · have := HQ.out j' (by omega); omega
            · omega)
          have RQ := Lib.hid rq; clear rq
          have BW6 := Lib.hid bw6; clear bw6
          clear nrb
          have NQ := Lib.hid nqj; clear nqj
          have hrl : (blk out S.blocks j).length = S.k + S.n := by rw [blk_len, HLO.out, HDAT.out, Nat.mul_div_cancel _ hb0.1]
          have hcl : (blk wF S.blocks j).length = S.k + S.n := by rw [blk_len, HLW.out, HDAT.out, Nat.mul_div_cancel _ hb0.1]
          have hol2 : out.length / S.blocks = S.k + S.n := by rw [HLO.out, HDAT.out, Nat.mul_div_cancel _ hb0.1]
          have hwl2 : wF.length / S.blocks = S.k + S.n := by rw [HLW.out, HDAT.out, Nat.mul_div_cancel _ hb0.1]
          obtain ⟨w7, hw7⟩ : ∃ w7, w6.alloc (.cells #[.int .i64 S.k, .slice (some ⟨q j, 0, none⟩) (S.k + S.n) (S.k + S.n)] 110) = w7 := ⟨_, rfl⟩
          have cn0 : Hid (w7.cell? ⟨w6.heap.size, 0, none⟩ = some (.int .i64 S.k) ∧ w7.cell? ⟨w6.heap.size, 1, none⟩ = some (.slice (some ⟨q j, 0, none⟩) (S.k + S.n) (S.k + S.n))) := Lib.hid (by
            rw [← hw7]; exact ⟨World.cell?_alloc_new w6 _ _ 0, World.cell?_alloc_new w6 _ _ 1⟩)
          have b67 : Hid (Below w6.heap.size w6 w7) := Lib.hid (by rw [← hw7]; exact (Below.refl _ _).alloc (Nat.le_refl _) _)
          obtain ⟨d0, fb, hc1, hc2, hfl, hdl⟩ := HDC.out.ex
          have hcc := correctC w w7 fb d0 dc (q j) S.n (blk out S.blocks j) (blk wF S.blocks j) (BW6.out.trans (b67.out.mono BW6.out.size)) hfl hc2 hdl hc1 HDC.out.lt (by have := HQ.out j hjB; omega)
            ((rowIs_below RQ.out b67.out RQ.out.lt).congr' hrl fun i hi' => by rw [hi_blk _ _ _ _ (by omega)]) (by rw [hrl]; omega) (by rw [hrl, hcl]) (by omega) (by omega) (by rw [hrl]; omega)
            (fun t ht => HCO.out j hjB (t + 1) (by omega) (by omega)) (HHU.out j hjB)
          rw [hrl, show ((S.k + S.n : Nat) : Int) - (S.n : Int) = (S.k : Int) by omega] at hcc
          clear hc1 hc2 hfl
          go_wp2_with fail
          refine (dbCw w7 w6.heap.size _ cn0.out.2).mono ?_
          rintro e w' ⟨rfl, hw⟩
          obtain rfl := hw
          go_wp2_with fail
          refine (dbNum w7 w6.heap.size S.k cn0.out.1).mono ?_
          rintro e w' ⟨rfl, hw⟩
          obtain rfl := hw
          go_wp2_with fail
          refine hcc.mono ?_
          rintro e w8 ⟨rfl, hr8, hb8⟩
          clear hcc
          have r8 : Hid (w8.rowIs (q j) 5 (S.k + S.n) (fun i => byt (if i < S.k then (hi wF (i * S.blocks + j)).v else (hi (blk out S.blocks j) i).v))) := Lib.hid (hr8.congr fun i hi' => by
            rw [show S.k + S.n - S.n = S.k by omega]
            by_cases h1 : i < S.k
            · rw [if_pos h1, if_pos h1, hi_blk _ _ _ _ (by omega)]
            · rw [if_neg h1, if_neg h1])
          have b8 : But (fun b => (∃ j', j' < j + 1 ∧ b = q j') ∨ b = w4.heap.size) w5 w8 := by
            have h1 : But (fun b => (∃ j', j' < j + 1 ∧ b = q j') ∨ b = w4.heap.size) w5 w6 := BU.out.weak fun x _ h => h.imp (fun ⟨j', h1, h2⟩ => ⟨j', by omega, h2⟩) id
            exact (h1.thenAll b67.out).trans (hb8.weak fun x _ h => .inl ⟨j, by omega, h⟩)
          have rr8 : w8.rowIs w4.heap.size 5 S.data (outRow S.blocks (fun o => (hi wF o).v) j 0) := hb8.row (rowIs_below R6.out b67.out R6.out.lt) (show ¬ w4.heap.size = q j by omega)
          have B8 := Lib.hid b8; clear b8
          have RR8 := Lib.hid rr8; clear rr8
          have z8 := hb8.size
          have z67 := b67.out.size
          clear hr8 hb8 cn0 hw7 hrl hcl hol2 hwl2 R6 BU g0 g1 RQ
          go_wp2_with fail
          go_loopw [23] (fun s23 wr => ∃ i : Nat, i ≤ S.k ∧ s23 = .int .i64 i ∧ wr.rowIs w4.heap.size 5 S.data (outRow S.blocks (fun o => (hi wF o).v) j i) ∧ But (· = w4.heap.size) w8 wr) (fun s23 _ => S.k - (intOf s23).toNat)
          case atStart => exact ⟨0, Nat.zero_le _, rfl, RR8.out, But.refl _ _⟩
          case round =>
            clear RR8
            obtain ⟨i, hik, rfl, hrow, hbut⟩ := hrel
            obtain ⟨w9, rfl⟩ : ∃ w9 : World, w9 = wr := ⟨_, rfl⟩
            have R9 := Lib.hid hrow; clear hrow
            have BU9 := Lib.hid hbut; clear hbut
            by_cases hi2 : i < S.k
            · have hqc := (BU9.out.row r8.out (show ¬ q j = w4.heap.size by omega)).cell (i := i) (by omega)
              rw [if_pos hi2] at hqc
              have hPlt : i * S.blocks + j < S.data := by rw [HDK.out]; exact off_lt2 hi2 hjB rfl
              obtain ⟨P, hP⟩ : ∃ P, i * S.blocks = P := ⟨_, rfl⟩
              rw [hP] at hqc hPlt
              have m1 : (i : Int) * (S.blocks : Int) = (P : Int) := by rw [← hP]; simp
              have HP := Lib.hid hP; clear hP
              have hgc := R9.out.cell hPlt
              have hgf := R9.out.frozen (P + j)
              have hcl2 := (hi wF (P + j)).lt
              have st := Lib.hid ((R9.out.set (P + j) (byt (hi wF (P + j)).v)).congr (g := outRow S.blocks (fun o => (hi wF o).v) j (i + 1)) fun o _ => by
                rw [← outRow_step S.blocks (fun o => (hi wF o).v) j i hjB o, HP.out])
              go_wp2
              go_roundw
              case rel => exact ⟨i + 1, hi2, by go_num, st.out, BU9.out.thenSet (a := ⟨w4.heap.size, P + j, none⟩) (.inl rfl) _⟩
              case measure => simp [intOf]; omega
            · obtain rfl : i = S.k := by omega
              go_wp2
              go_roundw
              case rel => exact ⟨j + 1, hjB, by go_num, R9.out.congr fun o ho => by rw [outRow_row S.blocks S.k _ j o (by rw [← HDA.out]; exact ho)], B8.out.trans (BU9.out.weak fun x _ h => .inr h)⟩
              case measure => simp [intOf]; omega
        · obtain rfl : j = S.blocks := by omega
          have hzu := BU.out.size
          have hz5 := z5.out
          have hzb := b45.out.size
          have bw6 : Below w.heap.size w w6 := (B3.out.trans (b45.out.mono z3)).trans (BU.out.below (by omega) fun x hx h => by
            rcases h with ⟨j', h1, h2⟩ | h2
            · have := HQ.out j' (by omega); omega
            · omega)
          have BW6 := Lib.hid bw6; clear bw6
          have bc := bitsC w6 w4.heap.size S.data (fun o => (hi wF o).v) text (R6.out.congr fun o _ => by rw [outRow_end _ _ _ hb0.1]) (fun o _ => (hi wF o).lt) (by omega) HDE.out H128.out HNE.out
          go_wp2_with fail
          refine bc.mono ?_
          rintro e w7 ⟨pr, rfl, hrs, hb7⟩
          clear bc
          have HRS := Lib.hid hrs; clear hrs
          have HB7 := Lib.hid hb7; clear hb7
          go_wp2
          go_ret2
          exact ⟨pr, w4.heap.size, rfl, HRS.out, (rowIs_below R6.out HB7.out R6.out.lt).congr fun o _ => by rw [outRow_end _ _ _ hb0.1], BW6.out.trans (HB7.out.mono BW6.out.size)⟩
end Go.Proofs.YtcnallabiffemaaGreatDoor
namespace Go.Proofs.YtcnallabiffemaaGreatDoor
open Go.RowKit (wrap32 wrap64 intOf Hid Below)
open Zx

theorem catch_idle (p : Addr) (w : World) :
    CallsD Tryz.prog 50 #[.pointer (some p)] .returning w fun e u' w' => e = .returned (.tuple #[]) ∧ u' = .returning ∧ w' = w := by
  refine callsD_of_wpS Tryz.func50 rfl fun c₀ cs hu => ?_
  apply wpS_seq
  apply wpS_region
  simp [wpOpsS, go_sem, recoverD, hu, Tryz.ntmps50, Exit.thenS]
  refine wpS_cond (t := false) (by simp [Act.eval, Array.replicate]) ?_
  simp only [Bool.false_eq_true, if_false]
  refine wpS_of_wp (wp_skip ?_)
  cases c₀
  simp_all [bodyPostS, results, Tryz.results50]

def TryTo (w : World) (Q : Bool → World → Prop) (e : Ending) (w' : World) : Prop := ∃ b w1, e = .returned (.bool b) ∧ Q b w1 ∧ w' = w1.setCell ⟨w.heap.size, 0, none⟩ (.bool b)
set_option maxRecDepth 100000 in
/-- a function that neither fails nor panics, tried -/
theorem tryC (w : World) (K : Nat) (cap : Array Value) (Q : Bool → World → Prop) (hent : ∀ w, (callFunc K cap).run Tryz.prog w = .ok (.enter K cap) w)
    (h : Calls Tryz.prog K cap (w.alloc (.cells #[.bool false] 4)) fun e w' => ∃ b, e = .returned (.bool b) ∧ Q b w' ∧ w'.cell? ⟨w.heap.size, 0, none⟩ = some (.bool false) ∧ w'.frozen? ⟨w.heap.size, 0, none⟩ = false) :
    Calls Tryz.prog 24 #[.func (Fn.func K) #[] cap] w (TryTo w Q) := by
  have hmf : ∀ (fn : Fn) (first cap : Array Value) (w : World), (Instr.makeFunc fn first cap).run Tryz.prog w = .ok (.func fn first cap) w := fun _ _ _ _ => rfl
  have H := Lib.hid h; clear h
  go_enter_defers Tryz.func24, Tryz.ntmps24
  go_wp2_with fail
  refine H.out.mono ?_
  rintro e w1 ⟨b, rfl, hQ, hc, hf⟩
  have HQ := Lib.hid hQ; clear hQ
  have hcs : (w1.setCell ⟨w.heap.size, 0, none⟩ (.bool b)).cell? ⟨w.heap.size, 0, none⟩ = some (.bool b) := World.cell?_setCell_same _ _ _ hc
  go_wp2
  go_loud (refine leaves_cons (f := 50) (args := #[.pointer (some ⟨w.heap.size, 0, none⟩)]) (by simp) (by simp [go_sem]) ?_)
  refine (catch_idle ⟨w.heap.size, 0, none⟩ _).mono ?_
  rintro e u' w'' ⟨rfl, rfl, rfl⟩
  simp [Leaves, settle, results, Tryz.results24, go_sem]
  exact ⟨_, by rw [hcs], b, w1, rfl, HQ.out, rfl⟩
theorem ent25 (cap : Array Value) (w : World) : (callFunc 25 cap).run Tryz.prog w = .ok (.enter 25 cap) w := enterC Tryz.func25 (by kernel_rfl) rfl cap w
end Go.Proofs.YtcnallabiffemaaGreatDoor
namespace Go.Proofs.YtcnallabiffemaaGreatDoor
open Go.RowKit (wrap32 wrap64 intOf Hid Below)
open Zx

def ClTo (w : World) (l : List Nat) (e : Ending) (w' : World) : Prop := ∃ v, e = .returned v ∧ OwnB w' w.heap.size v l ∧ Below w.heap.size w w'
set_option maxRecDepth 100000 in
theorem cloneC (w : World) (rb n : Nat) (d : Nat → Nat) (hr : w.rowIs rb 5 n (fun o => byt (d o))) (hn : n ≤ 5000) :
    Calls Tryz.prog 31 #[.slice (some ⟨rb, 0, none⟩) n n] w (ClTo w ((List.range n).map d)) := by
  have hlt := hr.lt
  have HR := Lib.hid hr; clear hr
  have o0 : OwnB (w.alloc (.cells #[] 5)) w.heap.size (.slice (some ⟨w.heap.size, 0, none⟩) 0 0) [] :=
    ⟨rfl, .inr ⟨w.heap.size, 0, #[], rfl, Nat.le_refl _, heap_alloc_new w _, Nat.le_refl _, by unfold maxLen; omega, rfl, rfl⟩⟩
  have O0 := Lib.hid o0; clear o0
  have hcells : ∀ (j : Nat) (u : Value), (((List.range n).map d).map byt)[j]? = some u → (w.alloc (.cells #[] 5)).cell? ((⟨rb, 0, none⟩ : Addr).add j) = some u := by
    intro j u hu
    rw [addr_add, Nat.zero_add]
    have hj : j < n := by have := List.getElem?_eq_some_iff.1 hu; simpa using this.1
    rw [show (w.alloc (.cells #[] 5)).cell? ⟨rb, j, none⟩ = w.cell? ⟨rb, j, none⟩ from World.cell?_alloc_lt w _ ⟨rb, j, none⟩ hlt, HR.out.cell hj]
    simp [hj] at hu
    rw [← hu]
  have HC := Lib.hid hcells; clear hcells
  have hnl : ∀ w, (binOp .eql 32 (.slice (some ⟨rb, 0, none⟩) n n) (.slice none 0 0)).run Tryz.prog w = .ok (.bool false) w := fun w => Lib.run_eql_slice_nil w 32 5 _ n n 0 0 Tryz.underlying32
  go_enter Tryz.func31, Tryz.ntmps31
  go_wp2_with (at_builtin; refine wpList_appV rfl (.tmp 5) (.tmp 6) 32 5 rfl Tryz.underlying32 (.int .u8 0) 1 infoB rfl (by decide) w.heap.size (.slice (some ⟨w.heap.size, 0, none⟩) 0 0) [] rfl O0.out ⟨rb, 0, none⟩ n n (((List.range n).map d).map byt) rfl (by simp) HC.out (byt_one _) (by simp; omega) (by rw [World.size_alloc]; omega) ?_)
  intro v' w1 H1
  have hb := H1.out.but
  go_wp2
  go_ret
  refine ⟨v', rfl, by show OwnV w1 5 w.heap.size v' (((List.range n).map d).map byt); rw [List.map_map]; exact H1.out.own, ?_⟩
  have b0 : Below w.heap.size w (w.alloc (.cells #[] 5)) := (Below.refl _ _).alloc (Nat.le_refl _) _
  exact b0.trans (hb.below (by rw [World.size_alloc]; omega) fun k hk h => by simp [Value.ownBlock] at h; omega)

/-- a matrix of bytes -/
structure Mat (w : World) (m : Nat) (r : Nat → Nat) (H W : Nat) (g : Nat → Nat → Nat) : Prop where
  rs : ∀ y, y < H → w.cell? ⟨m, y, none⟩ = some (.slice (some ⟨r y, 0, none⟩) W W)
  row : ∀ y, y < H → w.rowIs (r y) 5 W (fun x => byt (g y x))
  lt : m < w.heap.size
theorem Mat.below {w w' : World} {m : Nat} {r : Nat → Nat} {H W : Nat} {g : Nat → Nat → Nat} (h : Mat w m r H W g) (hb : Below w.heap.size w w') : Mat w' m r H W g :=
  ⟨fun y hy => (hb.cell (p := ⟨m, y, none⟩) h.lt).trans (h.rs y hy), fun y hy => rowIs_below (h.row y hy) hb (h.row y hy).lt, Nat.lt_of_lt_of_le h.lt hb.size⟩

/-- the codewords that a matrix shows -/
def ShowsM (s : Sym) (g : Nat → Nat → Nat) (out : List F) : Prop := ∀ (K : Nat) (sh : Shp) (j : Nat) (pl : Pl), (layN s.R s.C)[K]? = some sh → sh[j]? = some pl →
  decide (g (pl.1.toNat + 1 + 2 * (pl.1.toNat / s.rr)) (pl.2.toNat + 1 + 2 * (pl.2.toNat / s.rc)) ≠ 0) = (hi out K).v.testBit (7 - j)

theorem spot_lt {a r x R T : Nat} (ha : 0 < a) (hr : 0 < r) (hR : R = a * r) (hT : a * (r + 2) = T) (hx : x < R) : x + 1 + 2 * (x / r) < T := by
  have h1 : x / r < a := Nat.div_lt_of_lt_mul (by rw [Nat.mul_comm, ← hR]; exact hx)
  have h2 : T = R + 2 * a := by rw [← hT, hR, Nat.mul_add, Nat.mul_comm a 2]
  generalize x / r = y at h1 ⊢
  omega

theorem shows_of {i : Nat} (hi29 : i < 29) {ws : Nat → Nat} {g : Nat → Nat → Nat} {out : List F} (h : ShowsM (symAt i) g out) (hw : ∀ x y, x < (symAt i).cols → y < (symAt i).rows → bmAt (symAt i).cols ws x y = decide (g y x ≠ 0)) : Shows (symAt i) ws out := by
  have hf := symFine i hi29
  have hla := lays_at i hi29
  intro K sh j pl h1 h2
  have hin := lay_in hla.2.1 h1 h2
  rw [hw _ _ (spot_lt hf.rw_.2.2.2.2.2.2.2 hf.rw_.2.2.2.2.2.1 hf.rc_.2 hf.rw_.2.1 hin.2.2.2) (spot_lt hf.rw_.2.2.2.2.2.2.1 hf.rw_.2.2.2.2.1 hf.rc_.1 hf.rw_.1 hin.2.1)]
  exact h K sh j pl h1 h2
end Go.Proofs.YtcnallabiffemaaGreatDoor
