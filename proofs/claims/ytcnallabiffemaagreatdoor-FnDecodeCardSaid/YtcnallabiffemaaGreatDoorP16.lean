import Derived.Test.YtcnallabiffemaaGreatDoorP01
import Derived.Test.YtcnallabiffemaaGreatDoorP15
/- Part of the proof that a Data Matrix symbol of a text, damaged at most to half of its check codewords in each block, is decoded to the text (FnDecode): texts E1 E2. -/
set_option linter.unusedVariables false
set_option linter.unusedSimpArgs false
namespace Go.Proofs.YtcnallabiffemaaGreatDoor
open Go.RowKit (wrap32 wrap64 intOf Hid Below)
open Zx

set_option maxRecDepth 100000 in
set_option maxHeartbeats 4000000 in
/-- the rows of a matrix, read -/
theorem enc1C (S : ByteArray) (k : Int) (W H : Nat) (hW : W ≤ 200 ∧ H ≤ 200) (hz : ∀ w, Calls Tryz.prog 39 #[.string S, .int .i64 k] w (ZzTo w W H)) (w : World) (a b c : Nat) (ha : w.cell? ⟨a, 0, none⟩ = some (.string S)) (hb : w.cell? ⟨b, 0, none⟩ = some (.int .i64 k)) (hc : w.cell? ⟨c, 0, none⟩ = some (.slice none 0 0))
    (hcf : w.frozen? ⟨c, 0, none⟩ = false) (hcl : c < w.heap.size) :
    Calls Tryz.prog 38 #[pt a, pt b, pt c] w fun e w' => e = .returned (.bool true) ∧ But (· = c) w w' ∧ w'.frozen? ⟨c, 0, none⟩ = false ∧ ∃ ad cap, w'.cell? ⟨c, 0, none⟩ = some (.slice ad H cap) := by
  go_enter Tryz.func38, Tryz.ntmps38
  go_wp2_with fail
  refine (hz w).mono ?_
  rintro e w1 ⟨p, q, ws, rfl, hbm, hp, hq, hb1⟩
  have BM := Lib.hid hbm; clear hbm
  have B1 := Lib.hid hb1; clear hb1
  have hc1 := (B1.out.cell (p := ⟨c, 0, none⟩) hcl).trans hc
  go_wp2_with fail
  refine (hgtBm w1 p q W H ws BM.out).mono ?_
  rintro e w2 ⟨rfl, hw⟩
  obtain rfl := hw
  go_wp2_with fail
  have hz0 : w.heap.size ≤ w1.heap.size := B1.out.size
  have hcf1 : w1.frozen? ⟨c, 0, none⟩ = false := by
    have := B1.out.block c hcl
    unfold World.frozen? at hcf ⊢
    rw [this]; exact hcf
  have HCF := Lib.hid hcf1; clear hcf1
  have HC1 := Lib.hid hc1; clear hc1
  have hpc : p ≠ c := by omega
  have hqc : q ≠ c := by omega
  go_loopw [19] (fun s19 wr => ∃ (y : Nat) (v : Value) (rows : List Value), s19 = .int .i64 y ∧ y ≤ H ∧ rows.length = y ∧ OwnV wr 32 w1.heap.size v rows ∧ wr.cell? ⟨c, 0, none⟩ = some v ∧ wr.frozen? ⟨c, 0, none⟩ = false ∧ But (· = c) w1 wr) (fun s19 _ => H - (intOf s19).toNat)
  case atStart => exact ⟨0, _, [], rfl, Nat.zero_le _, rfl, OwnV.nil _ _ _, HC1.out, HCF.out, But.refl _ _⟩
  case round =>
    clear HC1 HCF
    obtain ⟨y, v, rows, rfl, hy, hrl, hown, hcell, hfr, hbt⟩ := hrel
    obtain ⟨w2, rfl⟩ : ∃ w2 : World, w2 = wr := ⟨_, rfl⟩
    have OWN := Lib.hid hown; clear hown
    have HRL := Lib.hid hrl; clear hrl
    have BT := Lib.hid hbt; clear hbt
    by_cases hyH : y < H
    · have BM2 := Lib.hid (BM.out.but BT.out hpc hqc)
      have CE := Lib.hid hcell; clear hcell
      have FR := Lib.hid hfr; clear hfr
      go_wp2_with fail
      refine (wdtBm w2 p q W H ws BM2.out).mono ?_
      rintro e w' ⟨rfl, hw⟩
      obtain rfl := hw
      go_wp2_with fail
      go_loopw [7, 24] (fun s7 s24 wr => ∃ (u : Value) (l : List Nat), u = s7 ∧ s24 = .int .i64 l.length ∧ l.length ≤ W ∧ OwnB wr w2.heap.size u l ∧ Below w2.heap.size w2 wr) (fun _ s24 _ => W - (intOf s24).toNat)
      case atStart => exact ⟨_, [], rfl, rfl, Nat.zero_le _, OwnV.nil _ _ _, Below.refl _ _⟩
      case round =>
        obtain ⟨u, l, rfl, rfl, hl, hou, hb3⟩ := hrel
        obtain ⟨w3, rfl⟩ : ∃ w3 : World, w3 = wr := ⟨_, rfl⟩
        obtain ⟨x, hx⟩ : ∃ x, l.length = x := ⟨_, rfl⟩
        rw [hx] at hl ⊢
        have HX := Lib.hid hx; clear hx
        have HB3 := Lib.hid hb3; clear hb3
        have OU := Lib.hid hou; clear hou
        have BM3 := Lib.hid (BM2.out.below HB3.out)
        have hs3 : w2.heap.size ≤ w3.heap.size := HB3.out.size
        by_cases hxW : x < W
        · go_wp2_with fail
          refine (getBm w3 p q W H x y ws BM3.out hxW hyH).mono ?_
          rintro e w' ⟨rfl, hw⟩
          obtain rfl := hw
          generalize bmAt W ws x y = bit
          have hxl : (l.map byt).length + 1 ≤ 1000000 := by rw [List.length_map, HX.out]; omega
          cases bit with
          | true =>
            go_wp2_with ((with_reducible show wpList _ _ _ (Oper.mk (some 33) _ _ _ _ _ :: _) _ _); refine wpList_appV rfl (.tmp 31) (.tmp 32) 32 5 rfl Tryz.underlying32 (.int .u8 0) 1 infoB rfl (by decide) w2.heap.size u (l.map byt) rfl (OU.out.below ((Below.refl _ _).alloc (Nat.le_refl _) _)) ⟨w3.heap.size, 0, none⟩ 1 1 [_] rfl rfl (cell_one_new _ _ _) (one_u8 _) hxl (by rw [World.size_alloc]; omega) ?_; intro u' w4 Hh; have AB := Lib.hid (app_below HB3.out OU.out Hh.out); have AO := Lib.hid Hh.out.own; clear Hh)
            go_roundw
            case rel => exact ⟨u', l ++ [1], rfl, by rw [List.length_append, HX.out]; go_num, by rw [List.length_append, HX.out]; exact hxW, by rw [OwnB, List.map_append]; exact AO.out, AB.out⟩
            case measure => simp [intOf]; omega
          | false =>
            go_wp2_with ((with_reducible show wpList _ _ _ (Oper.mk (some 36) _ _ _ _ _ :: _) _ _); refine wpList_appV rfl (.tmp 34) (.tmp 35) 32 5 rfl Tryz.underlying32 (.int .u8 0) 1 infoB rfl (by decide) w2.heap.size u (l.map byt) rfl (OU.out.below ((Below.refl _ _).alloc (Nat.le_refl _) _)) ⟨w3.heap.size, 0, none⟩ 1 1 [_] rfl rfl (cell_one_new _ _ _) (one_u8 _) hxl (by rw [World.size_alloc]; omega) ?_; intro u' w4 Hh; have AB := Lib.hid (app_below HB3.out OU.out Hh.out); have AO := Lib.hid Hh.out.own; clear Hh)
            go_roundw
            case rel => exact ⟨u', l ++ [0], rfl, by rw [List.length_append, HX.out]; go_num, by rw [List.length_append, HX.out]; exact hxW, by rw [OwnB, List.map_append]; exact AO.out, AB.out⟩
            case measure => simp [intOf]; omega
        · obtain rfl : W = x := by omega
          have hw1 := BM2.out.w1
          rcases OU.out.shape with ⟨_, h0⟩ | ⟨gu, cu, rfl, _, _, _, _, _⟩
          · have := congrArg List.length h0
            rw [List.length_map, HX.out] at this
            simp at this; omega
          rw [List.length_map, HX.out] at OU ⊢
          have hc2 : c < w2.heap.size := Nat.lt_of_lt_of_le (Nat.lt_of_lt_of_le hcl hz0) BT.out.size
          have hc3 : c < w3.heap.size := Nat.lt_of_lt_of_le hc2 hs3
          have ce3 := (HB3.out.cell (p := ⟨c, 0, none⟩) hc2).trans CE.out
          have hown3 : OwnV w3 32 w1.heap.size v rows := OWN.out.below HB3.out
          have OW3 := Lib.hid hown3; clear hown3
          have hr1 : rows.length + 1 ≤ 1000000 := by rw [HRL.out]; omega
          have h13 : w1.heap.size ≤ w3.heap.size := Nat.le_trans BT.out.size hs3
          go_wp2_with ((with_reducible show wpList _ _ _ (Oper.mk (some 41) _ _ _ _ _ :: _) _ _); refine wpList_appV rfl (.tmp 38) (.tmp 40) 37 32 rfl Tryz.underlying37 (.slice none 0 0) 24 info32 rfl (by decide) w1.heap.size v rows rfl (OW3.out.below ((Below.refl _ _).alloc (Nat.le_refl _) _)) ⟨w3.heap.size, 0, none⟩ 1 1 [_] rfl rfl (cell_one_new _ _ _) (one_slice _ _ _) hr1 (by rw [World.size_alloc]; omega) ?_; intro v' w4 Hh; have KP := Lib.hid (res_keep OWN.out (Nat.lt_of_lt_of_le hcl hz0) BT.out.size HB3.out Hh.out CE.out FR.out BT.out); have AO := Lib.hid Hh.out.own; clear Hh; obtain ⟨g5, c5, rfl⟩ := rows_shape AO.out; rw [HRL.out] at AO ⊢; have k1 := KP.out.1; have k2 := KP.out.2.1)
          have AO2 : Hid (OwnV (w4.setCell ⟨c, 0, none⟩ (.slice (some ⟨g5, 0, none⟩) (y + 1) c5)) 32 w1.heap.size (.slice (some ⟨g5, 0, none⟩) (y + 1) c5) (rows ++ [.slice (some ⟨gu, 0, none⟩) W cu])) := Lib.hid (AO.out.keep ((But.refl (· = c) w4).thenSet (a := ⟨c, 0, none⟩) (.inl rfl) _) (fun k hk e => by have := AO.out.lt hk; omega))
          have BT2 : Hid (But (· = c) w1 (w4.setCell ⟨c, 0, none⟩ (.slice (some ⟨g5, 0, none⟩) (y + 1) c5))) := Lib.hid (KP.out.2.2.thenSet (a := ⟨c, 0, none⟩) (.inl rfl) _)
          have CE2 : Hid ((w4.setCell ⟨c, 0, none⟩ (.slice (some ⟨g5, 0, none⟩) (y + 1) c5)).cell? ⟨c, 0, none⟩ = some (.slice (some ⟨g5, 0, none⟩) (y + 1) c5)) := Lib.hid (World.cell?_setCell_same _ _ _ k1)
          go_wp2
          go_roundw
          case rel => exact ⟨y + 1, _, _, by go_num, hyH, by rw [List.length_append, HRL.out]; rfl, AO2.out, CE2.out, by simp [k2], BT2.out⟩
          case measure => simp [intOf]; omega
    · obtain rfl : H = y := by omega
      rcases OWN.out.shape with ⟨rfl, h0⟩ | ⟨g, cap, rfl, _, _, _, _, _⟩
      · have : H = 0 := by rw [← HRL.out, h0]; rfl
        subst this
        go_wp2
        go_ret
        exact ⟨rfl, (But.ofAll B1.out).trans2 BT.out (fun i hi h => h), hfr, none, 0, hcell⟩
      · rw [HRL.out] at hcell
        go_wp2
        go_ret
        exact ⟨rfl, (But.ofAll B1.out).trans2 BT.out (fun i hi h => h), hfr, _, cap, hcell⟩
end Go.Proofs.YtcnallabiffemaaGreatDoor
namespace Go.Proofs.YtcnallabiffemaaGreatDoor
open Go.RowKit (wrap32 wrap64 intOf Hid Below)
open Zx

theorem shapes0 (w : World) : Calls Tryz.prog 37 #[.int .i64 0] w fun e w' => e = .returned (.tuple #[.int .i64 0, .bool true]) ∧ Below w.heap.size w w' := by
  go_enter Tryz.func37, Tryz.ntmps37
  go_wp2
  go_ret2
  exact ⟨rfl, (Below.refl _ _).alloc (Nat.le_refl _) _⟩
theorem ent38 (cap : Array Value) (w : World) : (callFunc 38 cap).run Tryz.prog w = .ok (.enter 38 cap) w := enterC Tryz.func38 (by kernel_rfl) rfl cap w

set_option maxRecDepth 100000 in
set_option maxHeartbeats 4000000 in
theorem encC (S : ByteArray) (W H : Nat) (hW : W ≤ 200 ∧ H ≤ 200) (hz : ∀ w, Calls Tryz.prog 39 #[.string S, .int .i64 0] w (ZzTo w W H)) (w : World) :
    Calls Tryz.prog 15 #[.string S, .int .i64 0] w fun e w' => ∃ ad cap, e = .returned (.tuple #[.slice ad H cap, .bool true]) ∧ Below w.heap.size w w' := by
  have ec := fun w a b c h1 h2 h3 h4 h5 => enc1C S 0 W H hW hz w a b c h1 h2 h3 h4 h5
  have EC := Lib.hid ec; clear ec
  go_enter Tryz.func15, Tryz.ntmps15
  go_wp2_with fail
  refine (shapes0 _).mono ?_
  rintro e w1 ⟨rfl, hb1⟩
  generalize hw0 : (w.alloc (.cells #[.string S] 9)).alloc (.cells #[.slice none 0 0] 37) = w0 at hb1
  have z0 : w0.heap.size = w.heap.size + 2 := by rw [← hw0, World.size_alloc, World.size_alloc]
  have b0 : Below w.heap.size w w0 := by rw [← hw0]; exact ((Below.refl _ _).alloc (Nat.le_refl _) _).alloc (by rw [World.size_alloc]; omega) _
  have a0 : w0.cell? ⟨w.heap.size, 0, none⟩ = some (.string S) := by
    rw [← hw0, World.cell?_alloc_lt _ _ ⟨w.heap.size, 0, none⟩ (show w.heap.size < _ by rw [World.size_alloc]; omega)]
    exact World.cell?_alloc_new w _ _ 0
  have c0 : w0.cell? ⟨w.heap.size + 1, 0, none⟩ = some (.slice none 0 0) := by
    have := World.cell?_alloc_new (w.alloc (.cells #[.string S] 9)) #[.slice none 0 0] 37 0
    rw [World.size_alloc, hw0] at this
    exact this
  have f0 : w0.frozen? ⟨w.heap.size + 1, 0, none⟩ = false := by
    rw [← hw0]; exact World.frozen?_alloc_at _ _ _ _ (by rw [World.size_alloc])
  have z1 : w.heap.size + 2 ≤ w1.heap.size := by have := hb1.size; omega
  obtain ⟨w3, hw3⟩ : ∃ w3, (w1.alloc (.cells #[.int .i64 0] 77)).alloc (.cells #[.bool false] 4) = w3 := ⟨_, rfl⟩
  have z3 : w3.heap.size = w1.heap.size + 2 := by rw [← hw3, World.size_alloc, World.size_alloc]
  have b13 : Below w1.heap.size w1 w3 := by rw [← hw3]; exact ((Below.refl _ _).alloc (Nat.le_refl _) _).alloc (by rw [World.size_alloc]; omega) _
  have b03 : Below w0.heap.size w0 w3 := hb1.trans (b13.mono hb1.size)
  have a3 := (b03.cell (p := ⟨w.heap.size, 0, none⟩) (show w.heap.size < w0.heap.size by omega)).trans a0
  have c3 := (b03.cell (p := ⟨w.heap.size + 1, 0, none⟩) (show w.heap.size + 1 < w0.heap.size by omega)).trans c0
  have f3 := frozen_of (b03.block (w.heap.size + 1) (by omega)) f0
  have d3 : w3.cell? ⟨w1.heap.size, 0, none⟩ = some (.int .i64 0) := by
    rw [← hw3, World.cell?_alloc_lt _ _ ⟨w1.heap.size, 0, none⟩ (show w1.heap.size < _ by rw [World.size_alloc]; omega)]
    exact World.cell?_alloc_new w1 _ _ 0
  have t3 : w3.cell? ⟨w1.heap.size + 1, 0, none⟩ = some (.bool false) := by
    have := World.cell?_alloc_new (w1.alloc (.cells #[.int .i64 0] 77)) #[.bool false] 4 0
    rw [World.size_alloc, hw3] at this
    exact this
  have tf3 : w3.frozen? ⟨w1.heap.size + 1, 0, none⟩ = false := by
    rw [← hw3]; exact World.frozen?_alloc_at _ _ _ _ (by rw [World.size_alloc])
  have ca := EC.out w3 w.heap.size w1.heap.size (w.heap.size + 1) a3 d3 c3 f3 (by omega)
  have tc := tryC (w1.alloc (.cells #[.int .i64 0] 77)) 38 #[pt w.heap.size, pt w1.heap.size, pt (w.heap.size + 1)] (fun b w' => b = true ∧ But (· = w.heap.size + 1) w3 w' ∧ w'.frozen? ⟨w.heap.size + 1, 0, none⟩ = false ∧ ∃ ad cap, w'.cell? ⟨w.heap.size + 1, 0, none⟩ = some (.slice ad H cap)) (fun w => ent38 _ w) (by
    rw [hw3, World.size_alloc]
    refine ca.mono fun e w' h => ?_
    obtain ⟨he, h2, h4⟩ := h
    refine ⟨true, he, ⟨rfl, h2, h4⟩, (h2.cell (p := ⟨w1.heap.size + 1, 0, none⟩) (show w1.heap.size + 1 < w3.heap.size by omega) (show ¬ w1.heap.size + 1 = w.heap.size + 1 by omega)).trans t3, ?_⟩
    exact frozen_of (h2.block (w1.heap.size + 1) (by omega) (show ¬ w1.heap.size + 1 = w.heap.size + 1 by omega)) tf3)
  have TC := Lib.hid tc
  clear tc ca
  go_wp2_with fail
  refine TC.out.mono ?_
  rintro e w5 ⟨b, w4, rfl, ⟨rfl, h3, hf4, ad, cap, h4⟩, hw5⟩
  rw [World.size_alloc] at hw5
  have but5 : But (· = w1.heap.size + 1) w4 w5 := by rw [hw5]; exact (But.refl (· = w1.heap.size + 1) w4).thenSet (a := ⟨w1.heap.size + 1, 0, none⟩) (.inl rfl) _
  have s4 := h3.size
  have c5 := (but5.cell (p := ⟨w.heap.size + 1, 0, none⟩) (show w.heap.size + 1 < w4.heap.size by omega) (show ¬ w.heap.size + 1 = w1.heap.size + 1 by omega)).trans h4
  have f5 := frozen_of (but5.block (w.heap.size + 1) (by omega) (show ¬ w.heap.size + 1 = w1.heap.size + 1 by omega)) hf4
  have bel5 : Below w.heap.size w w5 := ((b0.trans (b03.mono b0.size)).trans (h3.below (by omega) (fun k hk e => by omega))).trans (but5.below (by omega) (fun k hk e => by omega))
  have C6 := Lib.hid (World.cell?_setCell_same w5 ⟨w.heap.size + 1, 0, none⟩ (.slice ad H cap) c5)
  have c6 := C6.out
  clear hw5
  go_wp2
  exact bodyPost_ret (v := .tuple #[.slice ad H cap, .bool true]) (by simp [results, Tryz.results15, go_sem, c6]) rfl ⟨ad, cap, rfl, bel5.setCell (show w.heap.size ≤ w.heap.size + 1 by omega) _⟩

set_option maxRecDepth 100000 in
/-- works, from what the writer gives for the text 123456 -/
theorem worksC (hz : ∀ w, Calls Tryz.prog 39 #[.string ⟨#[49, 50, 51, 52, 53, 54]⟩, .int .i64 0] w (ZzTo w 10 10)) (w : World) : Calls Tryz.prog 6 #[] w (TrueTo w) := by
  have ec := fun w => encC ⟨#[49, 50, 51, 52, 53, 54]⟩ 10 10 (by omega) hz w
  go_enter Tryz.func6, Tryz.ntmps6
  go_wp2_with fail
  refine (ec w).mono ?_
  rintro e w' ⟨ad, cap, rfl, hb⟩
  go_wp2
  go_ret
  exact ⟨rfl, hb⟩
end Go.Proofs.YtcnallabiffemaaGreatDoor
