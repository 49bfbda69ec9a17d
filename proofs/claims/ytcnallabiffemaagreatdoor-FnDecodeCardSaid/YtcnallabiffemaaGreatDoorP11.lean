import Derived.Test.YtcnallabiffemaaGreatDoorP10
/- Part of the proof that a Data Matrix symbol of a text, damaged at most to half of its check codewords in each block, is decoded to the text (FnDecode): texts U6. -/
set_option linter.unusedVariables false
set_option linter.unusedSimpArgs false
namespace Go.Proofs.YtcnallabiffemaaGreatDoor
open Go.RowKit (wrap32 wrap64 intOf Hid Below)
open Zx

/-- the bits of the first rows, and of the beginning of the next one -/
def filled (g : Nat → Nat → Nat) (Y X x y : Nat) : Bool := decide ((y < Y ∨ (y = Y ∧ x < X)) ∧ g y x ≠ 0)
theorem filled_zero (g : Nat → Nat → Nat) (x y : Nat) : filled g 0 0 x y = false := by unfold filled; rw [decide_eq_false]; omega
theorem filled_row (g : Nat → Nat → Nat) (Y W x y : Nat) (hx : x < W) : filled g Y W x y = filled g (Y + 1) 0 x y := by
  unfold filled
  have : (y < Y ∨ (y = Y ∧ x < W)) ↔ (y < Y + 1 ∨ (y = Y + 1 ∧ x < 0)) := by omega
  rw [Bool.eq_iff_iff]
  simp only [decide_eq_true_eq]
  rw [this]
theorem filled_set (g : Nat → Nat → Nat) (Y X x y : Nat) (h : g Y X ≠ 0) : filled g Y (X + 1) x y = (decide (x = X ∧ y = Y) || filled g Y X x y) := by
  unfold filled
  rw [Bool.eq_iff_iff]
  simp only [decide_eq_true_eq, Bool.or_eq_true]
  constructor
  · rintro ⟨h1, h2⟩
    by_cases h3 : x = X ∧ y = Y
    · exact .inl h3
    · exact .inr ⟨by omega, h2⟩
  · rintro (⟨rfl, rfl⟩ | ⟨h1, h2⟩)
    · exact ⟨by omega, h⟩
    · exact ⟨by omega, h2⟩
theorem filled_skip (g : Nat → Nat → Nat) (Y X x y : Nat) (h : g Y X = 0) : filled g Y (X + 1) x y = filled g Y X x y := by
  unfold filled
  rw [Bool.eq_iff_iff]
  simp only [decide_eq_true_eq]
  constructor
  · rintro ⟨h1, h2⟩
    refine ⟨?_, h2⟩
    rcases h1 with h1 | ⟨rfl, h1⟩
    · exact .inl h1
    · rcases Nat.lt_or_ge x X with h3 | h3
      · exact .inr ⟨rfl, h3⟩
      · obtain rfl : x = X := by omega
        exact absurd h h2
  · rintro ⟨h1, h2⟩
    exact ⟨by omega, h2⟩

def Dec1To (w : World) (c2 n : Nat) (d : Nat → Nat) (text : List Nat) (e : Ending) (w' : World) : Prop :=
  e = .returned (.bool true) ∧ (∃ v, w'.rowIs c2 34 2 (fun j => if j = 0 then .string (baOf text) else v) ∧ OwnB w' w.heap.size v ((List.range n).map d)) ∧ But (· = c2) w w'

set_option maxRecDepth 100000 in
set_option maxHeartbeats 4000000 in
theorem dec1C (w : World) (c1 c2 m i : Nat) (r : Nat → Nat) (g : Nat → Nat → Nat) (hi29 : i < 29) (wF out : List F) (text : List Nat) (hm : Mat w m r (symAt i).rows (symAt i).cols g) (h1 : w.cell? ⟨c1, 0, none⟩ = some (.slice (some ⟨m, 0, none⟩) (symAt i).rows (symAt i).rows))
    (h2 : w.rowIs c2 34 2 (fun j => if j = 0 then .string ⟨#[]⟩ else .slice none 0 0)) (hc12 : c1 ≠ c2 ∧ m ≠ c2 ∧ ∀ y, y < (symAt i).rows → r y ≠ c2) (hc1 : c1 < w.heap.size)
    (hlo : out.length = (symAt i).data + (symAt i).check) (hlw : wF.length = (symAt i).data + (symAt i).check) (hbits : ShowsM (symAt i) g out)
    (hcode : ∀ j, j < (symAt i).blocks → ∀ t, 1 ≤ t → t ≤ (symAt i).n → hrn (al t) (blk wF (symAt i).blocks j) = 0) (hhurt : ∀ j, j < (symAt i).blocks → 2 * (er (blk out (symAt i).blocks j) (blk wF (symAt i).blocks j)).length ≤ (symAt i).n)
    (hdec : Dec 1 0 (ds (fun o => (hi wF o).v) (symAt i).data 0) text) (h128 : ∀ c ∈ text, c < 128) (hne : text ≠ []) :
    Calls Tryz.prog 25 #[pt c1, pt c2] w (Dec1To w c2 (symAt i).data (fun o => (hi wF o).v) text) := by
  have hf := symFine i hi29
  have hge := hf.ge
  have hdc := hf.dc
  have hdd := fun w' dc p b ws hbm hdcok hsh => decodeC w' dc p b i hi29 ws wF out text hbm hdcok hlo hlw (shows_of hi29 hbits hsh) hcode hhurt hdec h128 hne
  have HDD := Lib.hid hdd; clear hdd hlo hlw hbits hcode hhurt hdec h128 hne
  generalize symAt i = S at *
  have HM := Lib.hid hm; clear hm
  have H2 := Lib.hid h2; clear h2
  have H12 := Lib.hid hc12; clear hc12
  have row0 := HM.out.rs 0 (by omega)
  go_enter Tryz.func25, Tryz.ntmps25
  go_upto_region 1 with fail
  go_cut [3, 4] from 3 to 19 (fun s3 s4 wx => s3 = pt (w.heap.size + 1) ∧ s4 = .nilIface ∧ Bm wx (w.heap.size + 1) w.heap.size S.cols S.rows (fun _ => 0) ∧ wx.heap.size = w.heap.size + 2 ∧ Below w.heap.size w wx)
  case first =>
    --[F
    go_wp2_with fail
    go_region_with ((go_at_call 26; refine (newBm _ S.cols S.rows ⟨by omega, by omega⟩ ⟨by omega, by omega⟩).mono ?_; rintro e w1 ⟨rfl, hbm, hz1, hb1⟩; have HBM := Lib.hid hbm; clear hbm; have HZ1 := Lib.hid hz1; clear hz1; have HB1 := Lib.hid hb1; clear hb1))
    all_goals
      go_wp2
      go_meet
      exact ⟨rfl, rfl, HBM.out, HZ1.out, (below_dn w.heap.size w 1).trans HB1.out⟩
    --F]
  obtain ⟨rfl, rfl, hbm, hz1, hb1⟩ := hcut
  obtain ⟨w1, rfl⟩ : ∃ w1 : World, w1 = wc := ⟨_, rfl⟩
  have HBM := Lib.hid hbm; clear hbm
  have HZ1 := Lib.hid hz1; clear hz1
  have HB1 := Lib.hid hb1; clear hb1
  have m1 := Lib.hid (HM.out.below HB1.out)
  have cc1 := Lib.hid ((HB1.out.cell (p := ⟨c1, 0, none⟩) hc1).trans h1)
  clear row0
  have cc := cc1.out
  go_wp2_with fail
  clear cc h1
  go_loopw [24] (fun s24 wr => ∃ (y : Nat) (ws : Nat → Nat), y ≤ S.rows ∧ s24 = .int .i64 y ∧ Bm wr (w.heap.size + 1) w.heap.size S.cols S.rows ws ∧ (∀ x' y', x' < S.cols → bmAt S.cols ws x' y' = filled g y 0 x' y') ∧ But (· = w.heap.size) w1 wr) (fun s24 _ => S.rows - (intOf s24).toNat)
  case atStart => exact ⟨0, _, Nat.zero_le _, rfl, HBM.out, fun x' y' _ => by rw [bmAt_zero, filled_zero], But.refl _ _⟩
  case round =>
    clear HBM
    obtain ⟨y, ws, hy, rfl, hbm, hws, hbut⟩ := hrel
    obtain ⟨w2, rfl⟩ : ∃ w2 : World, w2 = wr := ⟨_, rfl⟩
    have HBM := Lib.hid hbm; clear hbm
    have HWS := Lib.hid hws; clear hws
    have BU := Lib.hid hbut; clear hbut
    have hmlt := HM.out.lt
    have z1 := HZ1.out
    by_cases hyH : y < S.rows
    · have g0 := (BU.out.cell (p := ⟨m, y, none⟩) m1.out.lt (show ¬ m = w.heap.size by omega)).trans (m1.out.rs y hyH)
      have hrl := (HM.out.row y hyH).lt
      have rowy := Lib.hid (BU.out.row (m1.out.row y hyH) (show ¬ r y = w.heap.size by omega))
      go_wp2_with fail
      go_loopw [31] (fun s31 wr => ∃ (x : Nat) (ws : Nat → Nat), x ≤ S.cols ∧ s31 = .int .i64 x ∧ Bm wr (w.heap.size + 1) w.heap.size S.cols S.rows ws ∧ (∀ x' y', x' < S.cols → bmAt S.cols ws x' y' = filled g y x x' y') ∧ But (· = w.heap.size) w2 wr) (fun s31 _ => S.cols - (intOf s31).toNat)
      case atStart => exact ⟨0, ws, Nat.zero_le _, rfl, HBM.out, HWS.out, But.refl _ _⟩
      case round =>
        clear HBM HWS
        clear ws
        obtain ⟨x, ws, hx, rfl, hbm, hws, hbut⟩ := hrel
        obtain ⟨w3, rfl⟩ : ∃ w3 : World, w3 = wr := ⟨_, rfl⟩
        have HBM := Lib.hid hbm; clear hbm
        have HWS := Lib.hid hws; clear hws
        have BU3 := Lib.hid hbut; clear hbut
        by_cases hxW : x < S.cols
        · have gv := (BU3.out.row rowy.out (show ¬ r y = w.heap.size by omega)).cell hxW
          obtain ⟨gv0, hgv⟩ : ∃ v, g y x = v := ⟨_, rfl⟩
          rw [hgv] at gv
          by_cases h0 : gv0 = 0
          · subst h0
            have HGV := Lib.hid hgv; clear hgv
            go_wp2
            go_roundw
            case rel => exact ⟨x + 1, ws, hxW, by go_num, HBM.out, fun x' y' hx' => by rw [HWS.out x' y' hx', filled_skip g y x x' y' HGV.out], BU3.out⟩
            case measure => simp [intOf]; omega
          · have q0 := int_nt (a := (gv0 : Int)) (b := 0) (by omega)
            have HGV := Lib.hid hgv; clear hgv
            go_wp2_with fail
            refine (setBmI w3 (w.heap.size + 1) w.heap.size S.cols S.rows x y x y ws HBM.out hxW hyH rfl rfl).mono ?_
            rintro e w4 ⟨rfl, hbm4, hb4, hz4⟩
            clear hz4
            have HBM4 := Lib.hid hbm4; clear hbm4
            have HB4 := Lib.hid hb4; clear hb4
            go_wp2
            go_roundw
            case rel => exact ⟨x + 1, _, hxW, by go_num, HBM4.out, fun x' y' hx' => by rw [bmAt_set _ _ _ _ _ _ hxW hx', HWS.out x' y' hx', filled_set g y x x' y' (by rw [HGV.out]; exact h0), Bool.or_comm], BU3.out.trans HB4.out⟩
            case measure => simp [intOf]; omega
        · obtain rfl : x = S.cols := by omega
          go_wp2
          go_roundw
          case rel => exact ⟨y + 1, ws, hyH, by go_num, HBM.out, fun x' y' hx' => by rw [HWS.out x' y' hx', filled_row g y S.cols x' y' hx'], BU.out.trans BU3.out⟩
          case measure => simp [intOf]; omega
    · obtain rfl : y = S.rows := by omega
      have b2 : Below w.heap.size w w2 := HB1.out.trans (BU.out.below HB1.out.size fun k hk h => by omega)
      have B2 := Lib.hid b2; clear b2
      have z2 := BU.out.size
      go_wp2_with fail
      refine (newDec w2).mono ?_
      rintro e w3 ⟨dc, rfl, hdc3, hb3⟩
      have HDC := Lib.hid hdc3; clear hdc3
      have B3 := Lib.hid hb3; clear hb3
      have hd3 := HDD.out w3 dc (w.heap.size + 1) w.heap.size ws (bmWs_read HBM.out (But.ofAll (S := fun _ => False) B3.out) id id) HDC.out (fun x' y' hx' hy' => by
        rw [HWS.out x' y' hx']; unfold filled
        have : (y' < S.rows ∨ (y' = S.rows ∧ x' < 0)) ∧ g y' x' ≠ 0 ↔ g y' x' ≠ 0 := ⟨fun h => h.2, fun h => ⟨.inl hy', h⟩⟩
        rw [Bool.eq_iff_iff]; simp only [decide_eq_true_eq]; exact this)
      go_wp2_with fail
      refine hd3.mono ?_
      rintro e w4 ⟨pr, rb, rfl, hrs, hrow, hb4⟩
      clear hd3
      have HRS := Lib.hid hrs; clear hrs
      have HROW := Lib.hid hrow; clear hrow
      have B4 := Lib.hid hb4; clear hb4
      go_wp2_with fail
      refine (getTxt w4 pr _ _ HRS.out).mono ?_
      rintro e w' ⟨rfl, hw⟩
      obtain rfl := hw
      go_wp2_with fail
      refine (getRaw w4 pr _ _ HRS.out).mono ?_
      rintro e w' ⟨rfl, hw⟩
      obtain rfl := hw
      go_wp2_with fail
      refine (cloneC w4 rb S.data _ HROW.out (by omega)).mono ?_
      rintro e w5 ⟨v5, rfl, ho5, hb5⟩
      have hv5 : ∃ ad n5 k5, v5 = .slice ad n5 k5 := by
        rcases ho5.shape with ⟨h, _⟩ | ⟨g5, k5, h, _⟩
        · exact ⟨_, _, _, h⟩
        · exact ⟨_, _, _, h⟩
      obtain ⟨ad, n5, k5, rfl⟩ := hv5
      have HO5 := Lib.hid ho5; clear ho5
      have z3 := B3.out.size
      have z4 := B4.out.size
      have b05 : Below w.heap.size w w5 := ((B2.out.trans (B3.out.mono B2.out.size)).trans (B4.out.mono (by omega))).trans (hb5.mono (by omega))
      have B5 := Lib.hid b05; clear b05
      have z5 := hb5.size
      clear hb5
      have h2lt := H2.out.lt
      have row5 := rowIs_below H2.out B5.out h2lt
      have f0 := row5.frozen 0
      have f1 := row5.frozen 1
      have gg0 := row5.cell (i := 0) (by decide)
      have gg1 := row5.cell (i := 1) (by decide)
      rw [if_pos rfl] at gg0
      rw [if_neg (by decide)] at gg1
      have row6 := row5.set 0 (.string (baOf text))
      have f2 := row6.frozen 1
      have gg2 := row6.cell (i := 1) (by decide)
      rw [if_neg (by decide), if_neg (by decide)] at gg2
      have ROW6 := Lib.hid (row6.set 1 (.slice ad n5 k5)); clear row6
      have bn : But (· = c2) w ((w5.setCell ⟨c2, 0, none⟩ (.string (baOf text))).setCell ⟨c2, 1, none⟩ (.slice ad n5 k5)) := ((But.ofAll (S := (· = c2)) B5.out).thenSet (a := ⟨c2, 0, none⟩) (.inl rfl) _).thenSet (a := ⟨c2, 1, none⟩) (.inl rfl) _
      have BN := Lib.hid bn; clear bn
      have hoo : OwnB ((w5.setCell ⟨c2, 0, none⟩ (.string (baOf text))).setCell ⟨c2, 1, none⟩ (.slice ad n5 k5)) w.heap.size (.slice ad n5 k5) ((List.range S.data).map (fun o => (hi wF o).v)) := by
        have h5 := HO5.out
        have hn : ∀ k, (Value.slice ad n5 k5).ownBlock = some k → ¬ (k = c2) := fun k hk hkc => by have := (h5.lt hk).1; omega
        exact (h5.keep (((But.refl (· = c2) w5).thenSet (a := ⟨c2, 0, none⟩) (.inl rfl) _).thenSet (a := ⟨c2, 1, none⟩) (.inl rfl) _) hn).base (by omega)
      have HOO := Lib.hid hoo; clear hoo
      go_wp2
      go_ret
      exact ⟨rfl, ⟨_, ROW6.out.congr fun j hj => by
        match j, hj with
        | 0, _ => rfl
        | 1, _ => rfl, HOO.out⟩, BN.out⟩
end Go.Proofs.YtcnallabiffemaaGreatDoor
