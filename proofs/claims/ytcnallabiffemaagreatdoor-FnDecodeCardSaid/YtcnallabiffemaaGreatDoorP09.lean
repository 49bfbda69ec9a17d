import Derived.Test.YtcnallabiffemaaGreatDoorP03
import Derived.Test.YtcnallabiffemaaGreatDoorP07
import Derived.Test.YtcnallabiffemaaGreatDoorP08
/- Part of the proof that a Data Matrix symbol of a text, damaged at most to half of its check codewords in each block, is decoded to the text (FnDecode): texts E30 E31 E32. -/
set_option linter.unusedVariables false
set_option linter.unusedSimpArgs false
namespace Go.Proofs.YtcnallabiffemaaGreatDoor
open Go.RowKit (wrap32 wrap64 intOf Hid Below)
open Zx

def NpTo (w : World) (R C cb m cc : Nat) (ws : Nat → Nat) (e : Ending) (w' : World) : Prop := ∃ p b, e = .returned (pt p) ∧ Pw w' p b R C cb m cc ws (fun _ => -1) ∧ w.heap.size ≤ p ∧ w.heap.size ≤ b ∧ Below w.heap.size w w'
set_option maxRecDepth 100000 in
set_option maxHeartbeats 4000000 in
theorem newPl (w : World) (R C cb m cc : Nat) (ws : Nat → Nat) (hcw : ∀ j, j < m → w.cell? ⟨cb, j, none⟩ = some (byt (ws j))) (hlt : ∀ j, j < m → ws j < 256) (hcb : cb < w.heap.size) (sz : 2 ≤ R ∧ R ≤ 150 ∧ 2 ≤ C ∧ C ≤ 150) :
    Calls Tryz.prog 70 #[.slice (some ⟨cb, 0, none⟩) m cc, .int .i64 C, .int .i64 R] w (NpTo w R C cb m cc ws) := by
  have hz := at_le (R := R) (C := C) sz.2.1 sz.2.2.2
  obtain ⟨Z, hZ⟩ : ∃ Z, R * C = Z := ⟨_, rfl⟩
  rw [hZ] at hz
  have hmul : IntKind.i64.wrap ((C : Int) * (R : Int)) = (Z : Int) := by rw [← Int.natCast_mul, Nat.mul_comm, hZ]; exact wraps_i64 _ (by omega) (by omega)
  have hmul2 : wrap64 ((C : Int) * (R : Int)) = (Z : Int) := by rw [← Int.natCast_mul, Nat.mul_comm, hZ]; exact IntWalk.wrap64_in _ (by omega)
  have mk := mk8 Z (by omega)
  have HCW := Lib.hid hcw; have HLT := Lib.hid hlt
  have HZ := Lib.hid hZ
  clear hcw hlt hZ
  have r0 := World.rowIs_made w (.int .i8 0) Z 217
  have r1 := row_litT (w.alloc (.cells (madeCells #[.int .i8 0] Z) 217)) #[.slice (some ⟨cb, 0, none⟩) m cc, .int .i64 R, .int .i64 C, .slice (some ⟨w.heap.size, 0, none⟩) Z Z] 216 4 (fun i => if i = 0 then .slice (some ⟨cb, 0, none⟩) m cc else if i = 1 then .int .i64 R else if i = 2 then .int .i64 C else .slice (some ⟨w.heap.size, 0, none⟩) Z Z) rfl
  rw [World.size_alloc] at r1
  have R0 := Lib.hid r0; have R1 := Lib.hid r1
  clear r0 r1
  go_enter Tryz.func70, Tryz.ntmps70
  go_wp2_with fail
  go_loopw [23] (fun s23 wr => ∃ i : Nat, s23 = .int .i64 i ∧ i ≤ Z ∧ wr.rowIs (w.heap.size + 1) 216 4 (fun i => if i = 0 then .slice (some ⟨cb, 0, none⟩) m cc else if i = 1 then .int .i64 R else if i = 2 then .int .i64 C else .slice (some ⟨w.heap.size, 0, none⟩) Z Z) ∧ wr.rowIs w.heap.size 217 Z (fun j => if j < i then .int .i8 (-1) else .int .i8 0) ∧ Below w.heap.size w wr) (fun s23 _ => Z - (intOf s23).toNat)
  case atStart => exact ⟨0, rfl, Nat.zero_le _, R1.out, (R0.out.alloc _).congr fun j _ => by rw [if_neg (Nat.not_lt_zero _)], ((Below.refl _ _).alloc (Nat.le_refl _) _).alloc (by rw [World.size_alloc]; omega) _⟩
  case round =>
    clear R0 R1 mk hmul hmul2
    obtain ⟨i, rfl, hi_, h1, h2, h3⟩ := hrel
    have c3 : wr.cell? ⟨w.heap.size + 1, 3, none⟩ = some (.slice (some ⟨w.heap.size, 0, none⟩) Z Z) := h1.cell (i := 3) (by omega)
    have H1 := Lib.hid h1; have H2 := Lib.hid h2; have H3 := Lib.hid h3
    clear h1 h2 h3
    by_cases hlt : i < Z
    · have cc := H2.out.cell (i := i) hlt
      rw [if_neg (Nat.lt_irrefl i)] at cc
      have ff := H2.out.frozen i
      go_wp2
      go_roundw
      case rel =>
        refine ⟨i + 1, by go_num, hlt, H1.out.setOther (by show _ + 1 ≠ w.heap.size; omega) _, (H2.out.set i _).congr fun j _ => ?_, H3.out.setCell (Nat.le_refl _) _⟩
        by_cases h : j = i
        · rw [if_pos h, if_pos (by omega)]
        · rw [if_neg h]
          by_cases h2 : j < i
          · rw [if_pos h2, if_pos (by omega)]
          · rw [if_neg h2, if_neg (by omega)]
      case measure => simp [intOf]; omega
    · obtain rfl : Z = i := by omega
      go_wp2
      go_ret
      refine ⟨w.heap.size + 1, w.heap.size, rfl, ⟨?_, fun j hj => (H3.out.cell (p := ⟨cb, j, none⟩) hcb).trans (HCW.out j hj), HLT.out, ?_, ⟨by omega, by omega, Nat.lt_of_lt_of_le hcb H3.out.size⟩, sz⟩, by omega, Nat.le_refl _, H3.out⟩
      · rw [show pwR cb m cc R C w.heap.size = fun i => if i = 0 then .slice (some ⟨cb, 0, none⟩) m cc else if i = 1 then .int .i64 R else if i = 2 then .int .i64 C else .slice (some ⟨w.heap.size, 0, none⟩) Z Z by rw [← HZ.out]; rfl]
        exact H1.out
      · rw [HZ.out]; exact H2.out.congr fun j hj => if_pos hj

theorem setBI (w : World) (p a W H x y : Nat) (r : Nat → Nat) (f : Nat → Nat → Int) (X Y : Int) (h : By w p a W H r f) (hx : x < W) (hy : y < H) (hX : X = x) (hY : Y = y) (bit : Bool) : Calls Tryz.prog 152 #[pt p, .int .i64 X, .int .i64 Y, .bool bit] w fun e w' => e = .returned (.tuple #[]) ∧ ∃ g, By w' p a W H r g ∧ But (ByS H r) w w' := by
  subst hX hY
  exact (setBool w p a W H x y r f h hx hy bit).mono fun e w' hh => ⟨hh.1, _, hh.2⟩
def tX (x : Nat) : Nat := if x = 0 then 0 else if x < 8 then x + 1 else 10
/-- the matrix of bytes while it is filled -/
structure Lo (w wr : World) (q a : Nat) (r : Nat → Nat) : Prop where
  by_ : ∃ g, By wr q a 10 10 r g
  bel : Below w.heap.size w wr
  ge : ∀ y, y < 10 → w.heap.size ≤ r y
theorem Lo.put {w wr w' : World} {q a : Nat} {r : Nat → Nat} {g : Nat → Nat → Int} (h : Lo w wr q a r) (hb : By w' q a 10 10 r g) (ht : But (ByS 10 r) wr w') : Lo w w' q a r :=
  ⟨⟨g, hb⟩, h.bel.trans (ht.below h.bel.size (fun k hk hs => by obtain ⟨y, hy, e⟩ := hs; have := h.ge y hy; omega)), h.ge⟩
theorem Lo.dn {w wr : World} {q a : Nat} {r : Nat → Nat} (h : Lo w wr q a r) (n : Nat) : Lo w (wr.drewN n) q a r := ⟨h.by_.imp fun _ h => h.dn n, h.bel.trans (below_dn _ _ _), h.ge⟩
end Go.Proofs.YtcnallabiffemaaGreatDoor
namespace Go.Proofs.YtcnallabiffemaaGreatDoor
open Go.RowKit (wrap32 wrap64 intOf Hid Below)
open Zx

theorem Lo.setB {w wr : World} {q a : Nat} {r : Nat → Nat} (h : Lo w wr q a r) (x y : Nat) (X Y : Int) (hx : x < 10) (hy : y < 10) (hX : X = x) (hY : Y = y) (bit : Bool) : Calls Tryz.prog 152 #[pt q, .int .i64 X, .int .i64 Y, .bool bit] wr fun e w' => e = .returned (.tuple #[]) ∧ Lo w w' q a r := by
  obtain ⟨f, hf⟩ := h.by_
  exact (setBI wr q a 10 10 x y r f X Y hf hx hy hX hY bit).mono fun e w' ⟨he, g, hg, hb⟩ => ⟨he, h.put hg hb⟩

def LowTo (w : World) (e : Ending) (w' : World) : Prop := ∃ f, CvTo w 10 10 f e w'
set_option maxRecDepth 100000 in
set_option maxHeartbeats 40000000 in
theorem lowC (w : World) (p bb cb m cc b : Nat) (ws : Nat → Nat) (f : Nat → Int) (r0 : Bool) (cap err rbd rbe : Nat) (hp : Pw w p bb 8 8 cb m cc ws f) (hs : SiR w b r0 cap err 8 8 1 rbd rbe) : Calls Tryz.prog 74 #[pt p, pt b, .int .i64 0, .int .i64 0] w (LowTo w) := by
  have HP := fun w' (h : Below w.heap.size w w') => hp.but (q := 0) h
  have HS := fun w' (h : Below w.heap.size w w') => (show SiR w' b r0 cap err 8 8 1 rbd rbe from rowIs_below hs h hs.lt)
  have P := Lib.hid HP; have S := Lib.hid HS
  clear HP HS hp hs
  have dw := fun w' (h : Below w.heap.size w w') => (show Calls Tryz.prog 71 #[pt b] w' fun e w'' => e = .returned (.int .i64 8) ∧ ∃ n, w'' = w'.drewN n from dwC w' b r0 cap err 8 8 1 rbd rbe (S.out _ h) (.inl rfl) (by decide))
  have dh := fun w' (h : Below w.heap.size w w') => (show Calls Tryz.prog 72 #[pt b] w' fun e w'' => e = .returned (.int .i64 8) ∧ ∃ n, w'' = w'.drewN n from dhC w' b r0 cap err 8 8 1 rbd rbe (S.out _ h) (.inl rfl) (by decide))
  have sw := fun w' (h : Below w.heap.size w w') => (show Calls Tryz.prog 132 #[pt b] w' fun e w'' => e = .returned (.int .i64 10) ∧ ∃ n, w'' = w'.drewN n from swC w' b r0 cap err 8 8 1 rbd rbe (S.out _ h) (.inl rfl) (by decide))
  have sh := fun w' (h : Below w.heap.size w w') => (show Calls Tryz.prog 134 #[pt b] w' fun e w'' => e = .returned (.int .i64 10) ∧ ∃ n, w'' = w'.drewN n from shC w' b r0 cap err 8 8 1 rbd rbe (S.out _ h) (.inl rfl) (by decide))
  have mw := fun w' (h : Below w.heap.size w w') => (show Calls Tryz.prog 153 #[pt b] w' fun e w'' => e = .returned (.int .i64 8) ∧ w'' = w' from mwC w' b r0 cap err 8 8 1 rbd rbe (S.out _ h))
  have mh := fun w' (h : Below w.heap.size w w') => (show Calls Tryz.prog 151 #[pt b] w' fun e w'' => e = .returned (.int .i64 8) ∧ w'' = w' from mhC w' b r0 cap err 8 8 1 rbd rbe (S.out _ h))
  have nb := fun w' => (show Calls Tryz.prog 150 #[.int .i64 10, .int .i64 10] w' (NbTo w' 10 10) from newBy w' 10 10 (by decide) (by decide))
  have cv := fun w' q a r g (h : By w' q a 10 10 r g) => (show Calls Tryz.prog 155 #[pt q, .int .i64 0, .int .i64 0] w' (CvTo w' 10 10 g) from convC w' q a 10 10 r g h (by decide) (by decide))
  have DW := Lib.hid dw; have DH := Lib.hid dh; have SW := Lib.hid sw; have SH := Lib.hid sh; have MW := Lib.hid mw; have MH := Lib.hid mh; have NB := Lib.hid nb; have CV := Lib.hid cv
  clear dw dh sw sh mw mh nb cv S
  go_enter Tryz.func74, Tryz.ntmps74
  go_wp2_with fail
  refine (DW.out _ (Below.refl _ _)).mono ?_
  rintro e w1 ⟨rfl, n1, rfl⟩
  have B1 := Lib.hid (below_dn w.heap.size w n1)
  generalize w.drewN n1 = w1 at B1 ⊢
  go_wp2_with fail
  refine (DH.out _ B1.out).mono ?_
  rintro e w2 ⟨rfl, n2, rfl⟩
  have B2 := Lib.hid (B1.out.trans (below_dn w.heap.size w1 n2)); clear B1
  generalize w1.drewN n2 = w2 at B2 ⊢
  go_wp2_with fail
  refine (SW.out _ B2.out).mono ?_
  rintro e w3 ⟨rfl, n3, rfl⟩
  have B3 := Lib.hid (B2.out.trans (below_dn w.heap.size w2 n3)); clear B2
  generalize w2.drewN n3 = w3 at B3 ⊢
  go_wp2_with fail
  refine (SH.out _ B3.out).mono ?_
  rintro e w4 ⟨rfl, n4, rfl⟩
  have B4 := Lib.hid (B3.out.trans (below_dn w.heap.size w3 n4)); clear B3
  generalize w3.drewN n4 = w4 at B4 ⊢
  go_wp2_with fail
  refine (NB.out w4).mono ?_
  rintro e w5 ⟨q, a, r, rfl, hby, hq, ha, hr, hb5⟩
  have z4 := B4.out.size
  have LO := Lib.hid (show Lo w w5 q a r from ⟨⟨_, hby⟩, B4.out.trans (hb5.mono z4), fun y hy => Nat.le_trans z4 (hr y hy)⟩)
  clear hby hb5 B4 hq ha hr z4
  go_wp2_with fail
  go_loopw [12, 13] (fun s12 s13 wr => ∃ y : Nat, s12 = .int .i64 (tX y) ∧ s13 = .int .i64 y ∧ y ≤ 8 ∧ Lo w wr q a r) (fun _ s13 _ => 8 - (intOf s13).toNat)
  case atStart => exact ⟨0, rfl, rfl, by decide, LO.out⟩
  case round =>
    clear LO
    obtain ⟨y, rfl, rfl, hy, hlo⟩ := hrel
    obtain ⟨w6, rfl⟩ : ∃ w6 : World, w6 = wr := ⟨_, rfl⟩
    have LO := Lib.hid hlo; clear hlo
    by_cases hy8 : y < 8
    · have m8 : (y : Int).tmod 8 = y := by rw [Int.tmod_eq_emod_of_nonneg (by omega)]; omega
      have m8' : (y : Int) % 8 = y := by omega
      go_upto_region 9 with fail
      rw [show decide ((y : Int) < 8) = true from decide_eq_true (by omega)]
      go_cut [36] from 32 to 36 (fun c wx => c = .bool (decide (y = 0)) ∧ wx = w6)
      case first =>
        as_aux_lemma =>
          by_cases h0 : y = 0
          · have q0 := int_bt (a := (y : Int)) (b := 0) (by omega)
            have K0 := Lib.hid h0; clear h0
            go_wp2_with fail
            refine (MH.out _ LO.out.bel).mono ?_
            rintro e w' ⟨rfl, hw⟩
            rw [hw]; clear hw
            go_wp2
            go_meet
            exact ⟨congrArg Value.bool (by rw [decide_eq_true K0.out]), rfl⟩
          · have q0 := int_bf (a := (y : Int)) (b := 0) (by omega)
            have K0 := Lib.hid h0; clear h0
            go_wp2_with fail
            refine (MH.out _ LO.out.bel).mono ?_
            rintro e w' ⟨rfl, hw⟩
            rw [hw]; clear hw
            go_wp2
            go_meet
            exact ⟨congrArg Value.bool (by rw [decide_eq_false K0.out]), rfl⟩
      obtain ⟨hc, hw⟩ := hcut
      subst hc
      rw [hw]; clear hw wc
      go_upto_if 36 with fail
      go_cut [12, 14, 15] from 36 to 53 (fun s12 s14 s15 wx => s12 = .int .i64 ((y : Int) + 1) ∧ Lo w wx q a r)
      case first =>
        as_aux_lemma =>
          by_cases h0 : y = 0
          · subst h0
            rw [decide_eq_true rfl, show ((tX 0 : Nat) : Int) = 0 from rfl, show ((0 : Nat) : Int) = 0 from rfl]
            go_wp2_with fail
            go_loopw [14, 15] (fun s14 s15 wr => ∃ x : Nat, s14 = .int .i64 x ∧ s15 = .int .i64 x ∧ x ≤ 10 ∧ Lo w wr q a r) (fun _ s15 _ => 10 - (intOf s15).toNat)
            case atStart => exact ⟨0, rfl, rfl, by decide, LO.out⟩
            case round =>
              clear LO
              obtain ⟨x, rfl, rfl, hx, hlo⟩ := hrel
              obtain ⟨w7, rfl⟩ : ∃ w7 : World, w7 = wr := ⟨_, rfl⟩
              have LO := Lib.hid hlo; clear hlo
              go_wp2_with fail
              refine (SW.out _ LO.out.bel).mono ?_
              rintro e w8 ⟨rfl, n8, rfl⟩
              have LO8 := Lib.hid (LO.out.dn n8); clear LO
              generalize w7.drewN n8 = w8 at LO8 ⊢
              by_cases hx10 : x < 10
              · go_wp2_with fail
                refine (LO8.out.setB x 0 _ _ hx10 (by decide) rfl rfl _).mono ?_
                rintro e w9 ⟨rfl, hlo9⟩
                have LO9 := Lib.hid hlo9; clear hlo9
                go_wp2_with fail
                go_roundw
                case rel => exact ⟨x + 1, by go_num, by go_num, hx10, LO9.out⟩
                case measure => simp [intOf]; omega
              · go_wp2
                go_meet
                exact ⟨rfl, LO8.out⟩
          · have ht : tX y = y + 1 := by unfold tX; rw [if_neg h0, if_pos hy8]
            rw [decide_eq_false h0, ht]
            clear h0 ht
            go_wp2
            go_meet
            exact ⟨by go_num, LO.out⟩
      clear LO
      obtain ⟨rfl, hlo⟩ := hcut
      obtain ⟨w7, rfl⟩ : ∃ w7 : World, w7 = wc := ⟨_, rfl⟩
      have LO := Lib.hid hlo; clear hlo
      go_wp2_with fail
      go_loopw [14, 16] (fun s14 s16 wr => ∃ x : Nat, s14 = .int .i64 (tX x) ∧ s16 = .int .i64 x ∧ x ≤ 8 ∧ Lo w wr q a r) (fun _ s16 _ => 8 - (intOf s16).toNat)
      case atStart => exact ⟨0, rfl, rfl, by decide, LO.out⟩
      case round =>
        clear LO
        obtain ⟨x, rfl, rfl, hx, hlo⟩ := hrel
        obtain ⟨w8, rfl⟩ : ∃ w8 : World, w8 = wr := ⟨_, rfl⟩
        have LO := Lib.hid hlo; clear hlo
        by_cases hx8 : x < 8
        · have x8 : (x : Int).tmod 8 = x := by rw [Int.tmod_eq_emod_of_nonneg (by omega)]; omega
          have x8' : (x : Int) % 8 = x := by omega
          go_upto_region 21 with fail
          rw [show decide ((x : Int) < 8) = true from decide_eq_true (by omega)]
          go_cut [63] from 59 to 63 (fun c wx => c = .bool (decide (x = 0)) ∧ wx = w8)
          case first =>
            as_aux_lemma =>
              by_cases h0 : x = 0
              · have q0 := int_bt (a := (x : Int)) (b := 0) (by omega)
                have K0 := Lib.hid h0; clear h0
                go_wp2_with fail
                refine (MW.out _ LO.out.bel).mono ?_
                rintro e w' ⟨rfl, hw⟩
                rw [hw]; clear hw
                go_wp2
                go_meet
                exact ⟨congrArg Value.bool (by rw [decide_eq_true K0.out]), rfl⟩
              · have q0 := int_bf (a := (x : Int)) (b := 0) (by omega)
                have K0 := Lib.hid h0; clear h0
                go_wp2_with fail
                refine (MW.out _ LO.out.bel).mono ?_
                rintro e w' ⟨rfl, hw⟩
                rw [hw]; clear hw
                go_wp2
                go_meet
                exact ⟨congrArg Value.bool (by rw [decide_eq_false K0.out]), rfl⟩
          obtain ⟨hc, hw⟩ := hcut
          subst hc
          rw [hw]; clear hw wc
          go_upto_if 63 with fail
          go_cut [14] from 63 to 69 (fun s14 wx => s14 = .int .i64 ((x : Int) + 1) ∧ Lo w wx q a r)
          case first =>
            as_aux_lemma =>
              by_cases h0 : x = 0
              · subst h0
                rw [decide_eq_true rfl, show ((tX 0 : Nat) : Int) = 0 from rfl]
                go_wp2_with fail
                refine (LO.out.setB 0 (y + 1) _ _ (by decide) (by omega) rfl (by omega) _).mono ?_
                rintro e w9 ⟨rfl, hlo9⟩
                have LO9 := Lib.hid hlo9; clear hlo9
                go_wp2
                go_meet
                exact ⟨rfl, LO9.out⟩
              · have ht : tX x = x + 1 := by unfold tX; rw [if_neg h0, if_pos hx8]
                rw [decide_eq_false h0, ht]
                clear h0 ht
                go_wp2
                go_meet
                exact ⟨by go_num, LO.out⟩
          clear LO
          obtain ⟨rfl, hlo⟩ := hcut
          obtain ⟨w9, rfl⟩ : ∃ w9 : World, w9 = wc := ⟨_, rfl⟩
          have LO := Lib.hid hlo; clear hlo
          go_wp2_with fail
          refine (getBitC w9 p bb 8 8 cb m cc x y ws f (P.out _ LO.out.bel) hx8 hy8).mono ?_
          rintro e w10 ⟨rfl, n10, rfl⟩
          have LO10 := Lib.hid (LO.out.dn n10); clear LO
          generalize w9.drewN n10 = w10 at LO10 ⊢
          go_wp2_with fail
          refine (LO10.out.setB (x + 1) (y + 1) _ _ (by omega) (by omega) (by omega) (by omega) _).mono ?_
          rintro e w11 ⟨rfl, hlo11⟩
          have LO11 := Lib.hid hlo11; clear hlo11 LO10
          by_cases h0 : x = 7
          · subst h0
            go_wp2_with fail
            go_quiet ((go_at_call 153; exact Calls.quiet_of_same (MW.out _ (LO11.out.dn _).bel)))
            have LO12 := Lib.hid (LO11.out.dn nq); clear LO11
            generalize w11.drewN nq = w12 at LO12 ⊢
            go_wp2_with fail
            refine (LO12.out.setB 9 (y + 1) _ _ (by decide) (by omega) rfl (by omega) _).mono ?_
            rintro e w13 ⟨rfl, hlo13⟩
            have LO := Lib.hid hlo13; clear hlo13 LO12
            go_wp2_with fail
            go_roundw
            case rel => exact ⟨8, rfl, rfl, by decide, LO.out⟩
            case measure => simp [intOf]
          · have q0 := int_bf (a := (x : Int)) (b := 7) (by omega)
            have K0 := Lib.hid (show ((tX (x + 1) : Nat) : Int) = (x : Int) + 2 by unfold tX; rw [if_neg (by omega), if_pos (by omega)]; omega)
            clear h0
            go_wp2_with fail
            go_quiet ((go_at_call 153; exact Calls.quiet_of_same (MW.out _ (LO11.out.dn _).bel)))
            have LO := Lib.hid (LO11.out.dn nq); clear LO11
            generalize w11.drewN nq = w12 at LO ⊢
            go_wp2_with fail
            go_roundw
            case rel => exact ⟨x + 1, by rw [K0.out]; go_num, by go_num, hx8, LO.out⟩
            case measure => simp [intOf]; omega
        · obtain rfl : x = 8 := by omega
          rw [show ((8 : Nat) : Int) = 8 from rfl, show ((tX 8 : Nat) : Int) = 10 from rfl]
          by_cases h0 : y = 7
          · subst h0
            rw [show ((7 : Nat) : Int) = 7 from rfl, show (7 : Int) + 1 = 8 from rfl]
            go_wp2_with fail
            go_quiet ((go_at_call 151; exact Calls.quiet_of_same (MH.out _ (LO.out.dn _).bel)))
            have LO12 := Lib.hid (LO.out.dn nq); clear LO
            generalize w8.drewN nq = w12 at LO12 ⊢
            go_wp2_with fail
            go_loopw [14, 17] (fun s14 s17 wr => ∃ x : Nat, s14 = .int .i64 x ∧ s17 = .int .i64 x ∧ x ≤ 10 ∧ Lo w wr q a r) (fun _ s17 _ => 10 - (intOf s17).toNat)
            case atStart => exact ⟨0, rfl, rfl, by decide, LO12.out⟩
            case round =>
              clear LO12
              obtain ⟨x, rfl, rfl, hx, hlo⟩ := hrel
              obtain ⟨w7, rfl⟩ : ∃ w7 : World, w7 = wr := ⟨_, rfl⟩
              have LO := Lib.hid hlo; clear hlo
              go_wp2_with fail
              refine (SW.out _ LO.out.bel).mono ?_
              rintro e w8 ⟨rfl, n8, rfl⟩
              have LO8 := Lib.hid (LO.out.dn n8); clear LO
              generalize w7.drewN n8 = w8 at LO8 ⊢
              by_cases hx10 : x < 10
              · go_wp2_with fail
                refine (LO8.out.setB x 9 _ _ hx10 (by decide) rfl rfl _).mono ?_
                rintro e w9 ⟨rfl, hlo9⟩
                have LO9 := Lib.hid hlo9; clear hlo9
                go_wp2_with fail
                go_roundw
                case rel => exact ⟨x + 1, by go_num, by go_num, hx10, LO9.out⟩
                case measure => simp [intOf]; omega
              · go_wp2_with fail
                go_roundw
                case rel => exact ⟨8, rfl, rfl, by decide, LO8.out⟩
                case measure => simp [intOf]
          · have q0 := int_bf (a := (y : Int)) (b := 7) (by omega)
            have K0 := Lib.hid (show ((tX (y + 1) : Nat) : Int) = (y : Int) + 2 by unfold tX; rw [if_neg (by omega), if_pos (by omega)]; omega)
            clear h0
            go_wp2_with fail
            go_quiet ((go_at_call 151; exact Calls.quiet_of_same (MH.out _ (LO.out.dn _).bel)))
            have LO12 := Lib.hid (LO.out.dn nq); clear LO
            generalize w8.drewN nq = w12 at LO12 ⊢
            go_wp2_with fail
            go_roundw
            case rel => exact ⟨y + 1, by rw [K0.out]; go_num, by go_num, hy8, LO12.out⟩
            case measure => simp [intOf]; omega
    · obtain ⟨g, hg⟩ := LO.out.by_
      have HG := Lib.hid hg; clear hg
      go_wp2_with fail
      refine (CV.out w6 q a r g HG.out).mono ?_
      rintro e w7 ⟨p7, b7, ws7, rfl, h1, h2, h3, h4, h5⟩
      have z := LO.out.bel.size
      go_wp2
      go_ret
      exact ⟨g, p7, b7, ws7, rfl, h1, h2, by omega, by omega, LO.out.bel.trans (h5.mono z)⟩
end Go.Proofs.YtcnallabiffemaaGreatDoor
namespace Go.Proofs.YtcnallabiffemaaGreatDoor
open Go.RowKit (wrap32 wrap64 intOf Hid Below)
open Zx

def d6 (j : Nat) : F := if j = 0 then ⟨142, by decide⟩ else if j = 1 then ⟨164, by decide⟩ else ⟨186, by decide⟩
theorem z6 : okE ((8 : Nat) : Int) ((8 : Nat) : Int) = true := okE_8_8
theorem l6 : (layN ((8 : Nat) : Int) ((8 : Nat) : Int)).length ≤ 8 := by rw [show (layN ((8 : Nat) : Int) ((8 : Nat) : Int)).length = 8 from len_8_8]; decide
set_option maxRecDepth 100000 in
set_option maxHeartbeats 8000000 in
/-- the writer at the text 123456 -/
theorem zzC (w : World) : Calls Tryz.prog 39 #[.string S6, .int .i64 0] w (ZzTo w 10 10) := by
  go_enter Tryz.func39, Tryz.ntmps39
  go_wp2_with fail
  refine (hlC w).mono ?_
  rintro e w1 ⟨cv, rfl, hown, hb1⟩
  rcases hown.shape with ⟨_, h0⟩ | ⟨gc, cc, rfl, hg1, hg2, _, hcells, _⟩
  · cases h0
  have hd : ∀ j, j < 3 → w1.cell? ⟨gc, j, none⟩ = some (byt (d6 j).v) := fun j hj => by
    match j, hj with
    | 0, _ => exact hcells 0 _ rfl
    | 1, _ => exact hcells 1 _ rfl
    | 2, _ => exact hcells 2 _ rfl
    | n + 3, h => omega
  have HD := Lib.hid hd; clear hd hcells hown
  have B1 := Lib.hid hb1; clear hb1
  rw [show (C6w.map byt).length = 3 from rfl]
  go_wp2_with fail
  refine (lookC w1 3 0 0 (by decide) (by decide) (by decide) (fun j hj => absurd hj (Nat.not_lt_zero _))).mono ?_
  rintro e w2 ⟨b, rfl, hrow, hb0, hb2⟩
  have SR := Lib.hid (show SiR w2 b false 3 5 8 8 1 3 5 from hrow)
  have hbl := hrow.lt
  have B2 := Lib.hid (B1.out.trans (hb2.mono B1.out.size))
  have HD2 : Hid (∀ j, j < 3 → w2.cell? ⟨gc, j, none⟩ = some (byt (d6 j).v)) := Lib.hid fun j hj => (hb2.cell (p := ⟨gc, j, none⟩) hg2).trans (HD.out j hj)
  have hgc2 : gc < w2.heap.size := Nat.lt_of_lt_of_le hg2 hb2.size
  clear hrow hb2 B1 HD hb0
  go_wp2_with fail
  refine (ecc200 w2 gc 3 cc b 5 0 false 8 8 1 5 d6 HD2.out hgc2 (by decide) (by decide) rfl SR.out hbl).mono ?_
  rintro e w3 ⟨v3, rfl, hown3, hb3⟩
  obtain ⟨L, hL⟩ : ∃ L, (List.range 3).map (fun j => (d6 j).v) ++ (List.range 5).map (fun i => (eccF 5 (facF 0) d6 3 (5 - 1 - i)).v) = L := ⟨_, rfl⟩
  have hLl : L.length = 8 := by rw [← hL]; simp
  have hL2 : ∀ x ∈ L, x < 256 := by
    intro x hx
    rw [← hL] at hx
    rcases List.mem_append.1 hx with h | h
    · obtain ⟨j, _, rfl⟩ := List.mem_map.1 h; exact (d6 j).lt
    · obtain ⟨j, _, rfl⟩ := List.mem_map.1 h; exact F.lt _
  rw [hL] at hown3
  clear hL
  rcases hown3.shape with ⟨_, h0⟩ | ⟨g3, c3, rfl, hg31, hg32, _, hcells3, _⟩
  · have := congrArg List.length h0
    rw [List.length_map, hLl] at this
    simp at this
  rw [List.length_map, hLl]
  have hcw : ∀ j, j < 8 → w3.cell? ⟨g3, j, none⟩ = some (byt (L.getD j 0)) := fun j hj => hcells3 j _ (by rw [List.getElem?_map, List.getD_eq_getElem?_getD, List.getElem?_eq_getElem (by omega)]; rfl)
  have hlw : ∀ j, j < 8 → L.getD j 0 < 256 := fun j hj => by
    rw [List.getD_eq_getElem?_getD, List.getElem?_eq_getElem (by omega)]
    exact hL2 _ (List.getElem_mem _)
  obtain ⟨ws, hws⟩ : ∃ ws : Nat → Nat, ws = fun j => L.getD j 0 := ⟨_, rfl⟩
  have HCW : Hid (∀ j, j < 8 → w3.cell? ⟨g3, j, none⟩ = some (byt (ws j))) := Lib.hid (by rw [hws]; exact hcw)
  have HLW : Hid (∀ j, j < 8 → ws j < 256) := Lib.hid (by rw [hws]; exact hlw)
  clear hws
  have S3 := Lib.hid (rowIs_below SR.out hb3 hbl)
  have B3 := Lib.hid (B2.out.trans (hb3.mono B2.out.size))
  have hbl3 : b < w3.heap.size := Nat.lt_of_lt_of_le hbl hb3.size
  clear hcw hlw hcells3 hown3 hb3 SR B2 HD2 hL2 hLl hgc2
  go_wp2_with fail
  refine (show Calls Tryz.prog 71 #[pt b] w3 fun e w' => e = .returned (.int .i64 8) ∧ ∃ n, w' = w3.drewN n from dwC w3 b false 3 5 8 8 1 3 5 S3.out (.inl rfl) (by decide)).mono ?_
  rintro e w4 ⟨rfl, n4, rfl⟩
  have S4 : Hid (SiR (w3.drewN n4) b false 3 5 8 8 1 3 5) := Lib.hid S3.out
  have HCW4 : Hid (∀ j, j < 8 → (w3.drewN n4).cell? ⟨g3, j, none⟩ = some (byt (ws j))) := Lib.hid HCW.out
  have B4 := Lib.hid (B3.out.trans (below_dn w.heap.size w3 n4))
  have hb4 : b < (w3.drewN n4).heap.size := hbl3
  have hg4 : g3 < (w3.drewN n4).heap.size := hg32
  clear S3 HCW B3
  generalize w3.drewN n4 = w4 at S4 HCW4 B4 hb4 hg4 ⊢
  go_wp2_with fail
  refine (show Calls Tryz.prog 72 #[pt b] w4 fun e w' => e = .returned (.int .i64 8) ∧ ∃ n, w' = w4.drewN n from dhC w4 b false 3 5 8 8 1 3 5 S4.out (.inl rfl) (by decide)).mono ?_
  rintro e w5 ⟨rfl, n5, rfl⟩
  have S5 : Hid (SiR (w4.drewN n5) b false 3 5 8 8 1 3 5) := Lib.hid S4.out
  have HCW5 : Hid (∀ j, j < 8 → (w4.drewN n5).cell? ⟨g3, j, none⟩ = some (byt (ws j))) := Lib.hid HCW4.out
  have B5 := Lib.hid (B4.out.trans (below_dn w.heap.size w4 n5))
  have hb5 : b < (w4.drewN n5).heap.size := hb4
  have hg5 : g3 < (w4.drewN n5).heap.size := hg4
  clear S4 HCW4 B4 hb4 hg4
  generalize w4.drewN n5 = w5 at S5 HCW5 B5 hb5 hg5 ⊢
  go_wp2_with fail
  refine (show Calls Tryz.prog 70 #[.slice (some ⟨g3, 0, none⟩) 8 c3, .int .i64 8, .int .i64 8] w5 (NpTo w5 8 8 g3 8 c3 ws) from newPl w5 8 8 g3 8 c3 ws HCW5.out HLW.out hg5 (by decide)).mono ?_
  rintro e w6 ⟨p, pb, rfl, hpw, hp0, hpb0, hb6⟩
  have S6 := Lib.hid (rowIs_below S5.out hb6 hb5)
  have z5 := B5.out.size
  have B6 := Lib.hid (B5.out.trans (hb6.mono z5))
  have PW := Lib.hid hpw
  clear hpw hb6 S5 HCW5 B5
  go_wp2_with fail
  refine (placeC w6 p pb 8 8 g3 8 c3 ws PW.out z6 l6 (by decide)).mono ?_
  rintro e w7 ⟨rfl, g, V, _, hpw, hbt⟩
  have S7 := Lib.hid (hbt.row S6.out (show ¬ b = pb by omega))
  have B7 := Lib.hid (B6.out.trans (hbt.below B6.out.size (fun k hk e => by omega)))
  clear hbt S6 B6 PW
  generalize (if 0 ≤ g (ix ((8 : Nat) : Int) (((8 : Nat) : Int) - 1, ((8 : Nat) : Int) - 1)) then fun i => mdv ws (g i) else fun i => if i = (8 - 2) * 8 + (8 - 2) then 1 else if i = (8 - 1) * 8 + (8 - 1) then 1 else mdv ws (g i)) = f7 at hpw
  have PW7 := Lib.hid hpw; clear hpw
  go_wp2_with fail
  refine (lowC w7 p pb g3 8 c3 b ws f7 false 3 5 3 5 PW7.out S7.out).mono ?_
  rintro e w8 ⟨f8, p8, b8, ws8, rfl, hbm, _, h3, h4, h5⟩
  have z7 := B7.out.size
  have BM := Lib.hid hbm; clear hbm
  have B8 := Lib.hid (B7.out.trans (h5.mono z7)); clear h5
  go_wp2
  go_ret2
  exact ⟨p8, b8, ws8, rfl, BM.out, by omega, by omega, B8.out⟩
end Go.Proofs.YtcnallabiffemaaGreatDoor
