import Derived.Deep.LoopGhost
import Derived.Test.YtcnallabiffemaaGreatDoorM17
import Derived.Test.YtcnallabiffemaaGreatDoorM18
import Derived.Test.YtcnallabiffemaaGreatDoorM20
/- Part of the proof that a Data Matrix symbol of a text, damaged at most to half of its check codewords in each block, is decoded to the text (FnDecode): texts Rc. -/
set_option linter.unusedVariables false
set_option linter.unusedSimpArgs false
namespace Go.Proofs.YtcnallabiffemaaGreatDoor
open Go.RowKit (wrap32 wrap64 intOf Hid Below)
open Zx

theorem info5 : (Tryz.prog.info? 5).map (fun i => (i.zero, i.size, i.bytes)) = some (some (.int .u8 0), 1, 1) := by kernel_rfl

/-- the decoder's walk at a phase -/
def At (R C : Nat) (n ph : Nat) (s : DS) (k : Nat) : Prop := runD R C n ph s ((layN R C).drop k) = true ∧ k ≤ (layN R C).length

/-- the state of the reading: k codewords are read -/
structure RW (w : World) (t pm bm pr br pv R C : Nat) (wm : Nat → Nat) (V k : Nat) (wx : World) : Prop where
  ps : Ps wx t pm bm pr br pv R C wm V
  row : wx.rowIs w.heap.size 5 (layN R C).length (fun i => .int .u8 ((if i < k then rdB C wm ((layN R C).getD i []) else 0 : Nat) : Int))
  but : But (· = br) w wx

theorem RW.put {w wx w2 : World} {t pm bm pr br pv R C : Nat} {wm : Nat → Nat} {V V' k : Nat} (h : RW w t pm bm pr br pv R C wm V k wx) (hlt : t < w.heap.size ∧ pm < w.heap.size ∧ bm < w.heap.size ∧ pr < w.heap.size ∧ br < w.heap.size)
    (hp : Ps w2 t pm bm pr br pv R C wm V') (hb : But (· = br) wx w2) {sh : Shp} {L' : List Shp} (hk : (layN R C).drop k = sh :: L') :
    RW w t pm bm pr br pv R C wm V' (k + 1) (w2.setCell ⟨w.heap.size, k, none⟩ (.int .u8 ((rdB C wm sh : Nat) : Int))) ∧ k < (layN R C).length ∧ (layN R C).drop (k + 1) = L' := by
  have h1 : k < (layN R C).length := by
    rcases Nat.lt_or_ge k (layN R C).length with h | h
    · exact h
    · rw [List.drop_eq_nil_of_le h] at hk; cases hk
  have h2 := List.drop_eq_getElem_cons h1
  rw [hk] at h2
  have h3 : (layN R C)[k] = sh := (List.cons.inj h2).1.symm
  have h4 : (layN R C).getD k [] = sh := by rw [List.getD_eq_getElem?_getD, List.getElem?_eq_getElem h1]; exact h3
  have hs : But (· = w.heap.size) w2 (w2.setCell ⟨w.heap.size, k, none⟩ (.int .u8 ((rdB C wm sh : Nat) : Int))) := (But.refl (· = w.heap.size) w2).thenSet (a := ⟨w.heap.size, k, none⟩) (.inl rfl) _
  refine ⟨⟨hp.but hs (by omega) (by omega) (by omega) (by omega) (by omega), ?_, (h.but.trans hb).thenSet (.inr (Nat.le_refl _)) _⟩, h1, (List.cons.inj h2).2.symm⟩
  have hr := (hb.row h.row (show ¬ w.heap.size = br by omega)).set k (.int .u8 ((rdB C wm sh : Nat) : Int))
  refine hr.congr fun i _ => ?_
  by_cases hi : i = k
  · subst hi; rw [if_pos rfl, if_pos (by omega), h4]
  · rw [if_neg hi]
    by_cases h5 : i < k
    · rw [if_pos h5, if_pos (by omega)]
    · rw [if_neg h5, if_neg (by omega)]

set_option maxRecDepth 100000 in
set_option maxHeartbeats 4000000 in
theorem readC (w0 w : World) (t pm bm pr br pv R C : Nat) (wm : Nat → Nat) (v : Ver) (h : Ps w t pm bm pr br pv R C wm 0) (hv : VerOk w0 pv v) (h0 : Below w0.heap.size w0 w) (hbr : w0.heap.size ≤ br) (ht : totK v.ec v.bl v.bl.length = (layN R C).length) (hok : okD R C = true)
    (hlt : t < w.heap.size ∧ pm < w.heap.size ∧ bm < w.heap.size ∧ pr < w.heap.size ∧ br < w.heap.size) (hn : (layN R C).length ≤ 3000) :
    Calls Tryz.prog 56 #[pt t] w fun e w' => e = .returned (.tuple #[.slice (some ⟨w.heap.size, 0, none⟩) (layN R C).length (layN R C).length, .nilIface]) ∧
      w'.rowIs w.heap.size 5 (layN R C).length (fun i => .int .u8 ((rdB C wm ((layN R C).getD i []) : Nat) : Int)) ∧ But (· = br) w w' := by
  obtain ⟨N, hN⟩ : ∃ N, (layN R C).length = N := ⟨_, rfl⟩
  rw [hN] at ht hn ⊢
  have HV := Lib.hid hv; clear hv
  have HVB := Lib.hid h0; clear h0
  have c0 := h.c0
  have c2 := h.c2
  have hmk := run_make_row' (P := Tryz.prog) 32 5 (.int .u8 0) 1 (by kernel_rfl) info5 rfl .i64 .i64 N (by omega) (by omega)
  have r0 : RW w t pm bm pr br pv R C wm 0 0 (w.alloc (.cells (madeCells #[.int .u8 0] N) 5)) :=
    ⟨h.but (But.ofAll (S := fun _ => False) ((Below.refl _ _).alloc (Nat.le_refl _) _)) id id id id id, by
      rw [hN]; exact (World.rowIs_made w (.int .u8 0) N 5).congr fun i _ => by rw [if_neg (Nat.not_lt_zero i)]; rfl, (But.refl _ _).thenAlloc _⟩
  have d0 := r0.ps.c0
  have R0 := Lib.hid r0; clear r0
  have hC := h.mm.w1
  have hR := h.mm.h1
  clear h
  have HLT := Lib.hid hlt; clear hlt
  have a0 : At R C (fuelD R C) 0 ⟨4, 0, 0, false, false, false, false⟩ 0 := ⟨hok, Nat.zero_le _⟩
  have AT := Lib.hid a0; clear a0 hok
  have HN := Lib.hid hN; clear hN
  have aC3 := and_i64 C 3 (by omega) (by decide)
  have aC7 := and_i64 C 7 (by omega) (by decide)
  rw [show C &&& 3 = C % 4 from Nat.and_two_pow_sub_one_eq_mod C 2, show ((3 : Nat) : Int) = 3 from rfl] at aC3
  rw [show C &&& 7 = C % 8 from Nat.and_two_pow_sub_one_eq_mod C 3, show ((7 : Nat) : Int) = 7 from rfl] at aC7
  go_enter Tryz.func56, Tryz.ntmps56
  go_wp2_with fail
  refine (totC w pv v (HV.out.below HVB.out)).mono ?_
  rintro e w' ⟨rfl, rfl⟩
  rw [ht]
  have HT := Lib.hid ht
  clear ht c0 c2
  go_wp2_with fail
  refine (hgtC _ pm bm C R wm R0.out.ps.mm).mono ?_
  rintro e w' ⟨rfl, hw⟩
  rw [← hw]; clear hw
  go_wp2_with fail
  refine (wdtC _ pm bm C R wm R0.out.ps.mm).mono ?_
  rintro e w' ⟨rfl, hw⟩
  rw [← hw]; clear hw
  go_wp2_with fail
  go_loopg [5, 6, 7, 10, 11, 12, 13] (fuelD R C) (fun n s5 s6 s7 s10 s11 s12 s13 wr => ∃ (s : DS) (k : Nat), At R C n 0 s k ∧ s5 = .int .i64 k ∧ s6 = .int .i64 s.row ∧ s7 = .int .i64 s.col ∧ s10 = .bool s.f1 ∧ s11 = .bool s.f2 ∧ s12 = .bool s.f3 ∧ s13 = .bool s.f4 ∧ RW w t pm bm pr br pv R C wm s.V k wr)
  case atStart => exact ⟨⟨4, 0, 0, false, false, false, false⟩, 0, AT.out, rfl, rfl, rfl, rfl, rfl, rfl, rfl, R0.out⟩
  case round =>
    obtain ⟨⟨row, col, V, f1, f2, f3, f4⟩, k, hat, rfl, rfl, rfl, rfl, rfl, rfl, rfl, hrw⟩ := hrel
    simp only at hrw
    have hbd := runD_bnd hat.1
    simp only at hbd
    obtain ⟨m0, hm0, h0⟩ := runD_0 hat.1
    simp only at h0
    have hk := hat.2
    clear hat
    obtain ⟨gN, rfl⟩ : ∃ g, g = gk := ⟨_, rfl⟩
    obtain ⟨wo, rfl⟩ : ∃ wo : World, wo = wr := ⟨_, rfl⟩
    have HW := Lib.hid hrw; clear hrw
    have H0 := Lib.hid h0; clear h0
    have e0 := HW.out.ps.c0
    have e1 := HW.out.ps.c1
    go_upto_region 11 with fail
    go_cut [41] from 41 to 41 (fun c wx => c = .bool (decide (row = (R : Int) ∧ col = 0 ∧ f1 = false)) ∧ wx = wo)
    case first =>
      as_aux_lemma =>
        by_cases h1 : row = (R : Int)
        · have q0 := int_bt h1
          have K0 := Lib.hid h1; clear h1
          by_cases h2 : col = 0
          · have q1 := int_bt h2
            have K1 := Lib.hid h2; clear h2
            cases f1
            all_goals
              go_wp2
              go_meet
              exact ⟨congrArg Value.bool (by simp [K0.out, K1.out]), rfl⟩
          · have q1 := int_bf h2
            have K1 := Lib.hid h2; clear h2
            go_wp2
            go_meet
            exact ⟨congrArg Value.bool (by simp [K0.out, K1.out]), rfl⟩
        · have q0 := int_bf h1
          have K0 := Lib.hid h1; clear h1
          go_wp2
          go_meet
          exact ⟨congrArg Value.bool (by simp [K0.out]), rfl⟩
    obtain ⟨hc, hw⟩ := hcut
    subst hc
    rw [hw]; clear hw wc
    go_upto_if 41 with fail
    go_cut [5, 6, 7, 10, 11, 12, 13] from 41 to 241 (fun s5 s6 s7 s10 s11 s12 s13 wx => ∃ (m : Nat) (s : DS) (k : Nat), m < gN ∧ At R C m 3 s k ∧ s5 = .int .i64 k ∧ s6 = .int .i64 s.row ∧ s7 = .int .i64 s.col ∧ s10 = .bool s.f1 ∧ s11 = .bool s.f2 ∧ s12 = .bool s.f3 ∧ s13 = .bool s.f4 ∧ RW w t pm bm pr br pv R C wm s.V k wx)
    case rest =>
      as_aux_lemma =>
        obtain ⟨m, ⟨row2, col2, V2, g1, g2, g3, g4⟩, k2, hm2, hat2, rfl, rfl, rfl, rfl, rfl, rfl, rfl, hrw2⟩ := hcut
        simp only at hrw2
        clear H0 hk hbd hm0
        have hbd2 := runD_bnd hat2.1
        simp only at hbd2
        obtain ⟨m3, hm3, h3⟩ := runD_3 hat2.1
        simp only at h3
        have hk2 := hat2.2
        clear hat2
        obtain ⟨w2, rfl⟩ : ∃ w2 : World, w2 = wc := ⟨_, rfl⟩
        have HW2 := Lib.hid hrw2; clear hrw2
        have H3 := Lib.hid h3; clear h3
        clear e0 e1
        go_upto_region 51 with fail
        go_cut [241] from 241 to 241 (fun c wx => c = .bool (!decide (row2 < (R : Int) ∨ col2 < (C : Int))) ∧ wx = w2)
        case first =>
          by_cases h1 : row2 < (R : Int)
          · have K0 := Lib.hid (show row2 < (R : Int) ∨ col2 < (C : Int) from .inl h1)
            go_wp2
            go_meet
            exact ⟨congrArg Value.bool (by rw [decide_eq_true K0.out]; rfl), rfl⟩
          · by_cases h2 : col2 < (C : Int)
            · have K0 := Lib.hid (show row2 < (R : Int) ∨ col2 < (C : Int) from .inr h2)
              go_wp2
              go_meet
              exact ⟨congrArg Value.bool (by rw [decide_eq_true K0.out]; rfl), rfl⟩
            · have K0 := Lib.hid (show ¬ (row2 < (R : Int) ∨ col2 < (C : Int)) from fun h => h.elim h1 h2)
              go_wp2
              go_meet
              exact ⟨congrArg Value.bool (by rw [decide_eq_false K0.out]; rfl), rfl⟩
        obtain ⟨hc, hw⟩ := hcut
        subst hc
        rw [hw]; clear hw wc
        by_cases hA : row2 < (R : Int) ∨ col2 < (C : Int)
        · rw [decide_eq_true hA]
          have H4 : Hid _ := Lib.hid (by have h3 := H3.out; rewrite [if_pos hA] at h3; exact h3)
          clear H3 hA
          go_wp2
          go_roundg m3
          case rel => exact ⟨⟨row2, col2, V2, g1, g2, g3, g4⟩, k2, ⟨H4.out, hk2⟩, rfl, rfl, rfl, rfl, rfl, rfl, rfl, HW2.out⟩
          case measure => omega
        · rw [decide_eq_false hA]
          have hL : (layN R C).drop k2 = [] := by have h3 := H3.out; rw [if_neg hA] at h3; exact List.isEmpty_iff.1 h3
          have hkN : k2 = N := by have := List.drop_eq_nil_iff.1 hL; rw [HN.out] at this hk2; omega
          clear hL H3 hA
          have c2 := HW2.out.ps.c2
          subst hkN
          have TT := totC w2 pv v (HV.out.below (HVB.out.trans (HW2.out.but.below HVB.out.size fun k hk hb => by omega)))
          rw [HT.out] at TT
          go_wp2_with fail
          refine TT.mono ?_
          rintro e w' ⟨rfl, hw'⟩
          obtain rfl := hw'
          clear TT
          go_wp2
          go_ret2
          have hrow := HW2.out.row
          rw [HN.out] at hrow
          exact ⟨rfl, hrow.congr fun i hi => by rw [if_pos hi], HW2.out.but⟩
    case first =>
      by_cases hA : row = (R : Int) ∧ col = 0 ∧ f1 = false
      · as_aux_lemma =>
          rw [decide_eq_true hA]
          have h3 := H0.out
          rw [if_pos hA] at h3
          obtain ⟨L', V', hL, htk, hrun⟩ := tk_spec h3
          simp only at htk hrun
          have HL := Lib.hid hL; clear hL h3
          have HRUN := Lib.hid hrun; clear hrun H0 hA
          go_wp2_with fail
          refine (rdCorn1 wo t pm bm pr br pv R C wm V V' HW.out.ps htk).mono ?_
          rintro e w2 ⟨rfl, hp2, hb2, _⟩
          have hput := HW.out.put HLT.out hp2 hb2 HL.out
          have hrow2 := hb2.row HW.out.row (show ¬ w.heap.size = br by have := HLT.out; omega)
          have hkl := hput.2.1
          rw [HN.out] at hkl hrow2
          have gc := hrow2.cell hkl
          have gf := hrow2.frozen k
          have HPUT := Lib.hid hput; clear hput hrow2 hp2 hb2
          go_wp2
          go_meet
          exact ⟨m0, ⟨row - 2, col + 2, V', true, f2, f3, f4⟩, k + 1, by omega, ⟨by rw [HPUT.out.2.2]; exact HRUN.out, HPUT.out.2.1⟩, by go_num, rfl, rfl, rfl, rfl, rfl, rfl, HPUT.out.1⟩
      · rw [decide_eq_false hA]
        have H1 : Hid _ := Lib.hid (by have h3 := H0.out; rewrite [if_neg hA] at h3; exact h3)
        clear H0
        have H0 := H1; clear H1 hA
        go_upto_region 17 with fail
        go_cut [71] from 71 to 71 (fun c wx => c = .bool (decide (row = (R : Int) - 2 ∧ col = 0 ∧ (C : Int) % 4 ≠ 0 ∧ f2 = false)) ∧ wx = wo)
        case first =>
          as_aux_lemma =>
            by_cases h1 : row = (R : Int) - 2
            · have q0 := int_bt h1
              have K0 := Lib.hid h1; clear h1
              by_cases h2 : col = 0
              · have q1 := int_bt h2
                have K1 := Lib.hid h2; clear h2
                by_cases hm : ((C : Int) % 4) ≠ 0
                · have q2 := int_nt (a := ((C % 4 : Nat) : Int)) (b := 0) (by omega)
                  have K2 := Lib.hid hm; clear hm
                  cases f2
                  all_goals
                    go_wp2
                    go_meet
                    exact ⟨congrArg Value.bool (by simp [K0.out, K1.out, K2.out]), rfl⟩
                · have q2 := int_nf (a := ((C % 4 : Nat) : Int)) (b := 0) (by omega)
                  have K2 := Lib.hid hm; clear hm
                  go_wp2
                  go_meet
                  exact ⟨congrArg Value.bool (by simp [K0.out, K1.out, K2.out]), rfl⟩
              · have q1 := int_bf h2
                have K1 := Lib.hid h2; clear h2
                go_wp2
                go_meet
                exact ⟨congrArg Value.bool (by simp [K0.out, K1.out]), rfl⟩
            · have q0 := int_bf h1
              have K0 := Lib.hid h1; clear h1
              go_wp2
              go_meet
              exact ⟨congrArg Value.bool (by simp [K0.out]), rfl⟩
        obtain ⟨hc, hw⟩ := hcut
        subst hc
        rw [hw]; clear hw wc
        go_upto_if 71 with fail
        by_cases hA : row = (R : Int) - 2 ∧ col = 0 ∧ (C : Int) % 4 ≠ 0 ∧ f2 = false
        · as_aux_lemma =>
            rw [decide_eq_true hA]
            have h3 := H0.out
            rw [if_pos hA] at h3
            obtain ⟨L', V', hL, htk, hrun⟩ := tk_spec h3
            simp only at htk hrun
            have HL := Lib.hid hL; clear hL h3
            have HRUN := Lib.hid hrun; clear hrun H0 hA
            go_wp2_with fail
            refine (rdCorn2 wo t pm bm pr br pv R C wm V V' HW.out.ps htk).mono ?_
            rintro e w2 ⟨rfl, hp2, hb2, _⟩
            have hput := HW.out.put HLT.out hp2 hb2 HL.out
            have hrow2 := hb2.row HW.out.row (show ¬ w.heap.size = br by have := HLT.out; omega)
            have hkl := hput.2.1
            rw [HN.out] at hkl hrow2
            have gc := hrow2.cell hkl
            have gf := hrow2.frozen k
            have HPUT := Lib.hid hput; clear hput hrow2 hp2 hb2
            go_wp2
            go_meet
            exact ⟨m0, ⟨row - 2, col + 2, V', f1, true, f3, f4⟩, k + 1, by omega, ⟨by rw [HPUT.out.2.2]; exact HRUN.out, HPUT.out.2.1⟩, by go_num, rfl, rfl, rfl, rfl, rfl, rfl, HPUT.out.1⟩
        · rw [decide_eq_false hA]
          have H1 : Hid _ := Lib.hid (by have h3 := H0.out; rewrite [if_neg hA] at h3; exact h3)
          clear H0
          have H0 := H1; clear H1 hA
          go_upto_region 23 with fail
          go_cut [101] from 101 to 101 (fun c wx => c = .bool (decide (row = (R : Int) + 4 ∧ col = 2 ∧ (C : Int) % 8 = 0 ∧ f3 = false)) ∧ wx = wo)
          case first =>
            as_aux_lemma =>
              by_cases h1 : row = (R : Int) + 4
              · have q0 := int_bt h1
                have K0 := Lib.hid h1; clear h1
                by_cases h2 : col = 2
                · have q1 := int_bt h2
                  have K1 := Lib.hid h2; clear h2
                  by_cases hm : ((C : Int) % 8) = 0
                  · have q2 := int_bt (a := ((C % 8 : Nat) : Int)) (b := 0) (by omega)
                    have K2 := Lib.hid hm; clear hm
                    cases f3
                    all_goals
                      go_wp2
                      go_meet
                      exact ⟨congrArg Value.bool (by simp [K0.out, K1.out, K2.out]), rfl⟩
                  · have q2 := int_bf (a := ((C % 8 : Nat) : Int)) (b := 0) (by omega)
                    have K2 := Lib.hid hm; clear hm
                    go_wp2
                    go_meet
                    exact ⟨congrArg Value.bool (by simp [K0.out, K1.out, K2.out]), rfl⟩
                · have q1 := int_bf h2
                  have K1 := Lib.hid h2; clear h2
                  go_wp2
                  go_meet
                  exact ⟨congrArg Value.bool (by simp [K0.out, K1.out]), rfl⟩
              · have q0 := int_bf h1
                have K0 := Lib.hid h1; clear h1
                go_wp2
                go_meet
                exact ⟨congrArg Value.bool (by simp [K0.out]), rfl⟩
          obtain ⟨hc, hw⟩ := hcut
          subst hc
          rw [hw]; clear hw wc
          go_upto_if 101 with fail
          by_cases hA : row = (R : Int) + 4 ∧ col = 2 ∧ (C : Int) % 8 = 0 ∧ f3 = false
          · as_aux_lemma =>
              rw [decide_eq_true hA]
              have h3 := H0.out
              rw [if_pos hA] at h3
              obtain ⟨L', V', hL, htk, hrun⟩ := tk_spec h3
              simp only at htk hrun
              have HL := Lib.hid hL; clear hL h3
              have HRUN := Lib.hid hrun; clear hrun H0 hA
              go_wp2_with fail
              refine (rdCorn3 wo t pm bm pr br pv R C wm V V' HW.out.ps htk).mono ?_
              rintro e w2 ⟨rfl, hp2, hb2, _⟩
              have hput := HW.out.put HLT.out hp2 hb2 HL.out
              have hrow2 := hb2.row HW.out.row (show ¬ w.heap.size = br by have := HLT.out; omega)
              have hkl := hput.2.1
              rw [HN.out] at hkl hrow2
              have gc := hrow2.cell hkl
              have gf := hrow2.frozen k
              have HPUT := Lib.hid hput; clear hput hrow2 hp2 hb2
              go_wp2
              go_meet
              exact ⟨m0, ⟨row - 2, col + 2, V', f1, f2, true, f4⟩, k + 1, by omega, ⟨by rw [HPUT.out.2.2]; exact HRUN.out, HPUT.out.2.1⟩, by go_num, rfl, rfl, rfl, rfl, rfl, rfl, HPUT.out.1⟩
          · rw [decide_eq_false hA]
            have H1 : Hid _ := Lib.hid (by have h3 := H0.out; rewrite [if_neg hA] at h3; exact h3)
            clear H0
            have H0 := H1; clear H1 hA
            go_upto_region 29 with fail
            go_cut [131] from 131 to 131 (fun c wx => c = .bool (decide (row = (R : Int) - 2 ∧ col = 0 ∧ (C : Int) % 8 = 4 ∧ f4 = false)) ∧ wx = wo)
            case first =>
              as_aux_lemma =>
                by_cases h1 : row = (R : Int) - 2
                · have q0 := int_bt h1
                  have K0 := Lib.hid h1; clear h1
                  by_cases h2 : col = 0
                  · have q1 := int_bt h2
                    have K1 := Lib.hid h2; clear h2
                    by_cases hm : ((C : Int) % 8) = 4
                    · have q2 := int_bt (a := ((C % 8 : Nat) : Int)) (b := 4) (by omega)
                      have K2 := Lib.hid hm; clear hm
                      cases f4
                      all_goals
                        go_wp2
                        go_meet
                        exact ⟨congrArg Value.bool (by simp [K0.out, K1.out, K2.out]), rfl⟩
                    · have q2 := int_bf (a := ((C % 8 : Nat) : Int)) (b := 4) (by omega)
                      have K2 := Lib.hid hm; clear hm
                      go_wp2
                      go_meet
                      exact ⟨congrArg Value.bool (by simp [K0.out, K1.out, K2.out]), rfl⟩
                  · have q1 := int_bf h2
                    have K1 := Lib.hid h2; clear h2
                    go_wp2
                    go_meet
                    exact ⟨congrArg Value.bool (by simp [K0.out, K1.out]), rfl⟩
                · have q0 := int_bf h1
                  have K0 := Lib.hid h1; clear h1
                  go_wp2
                  go_meet
                  exact ⟨congrArg Value.bool (by simp [K0.out]), rfl⟩
            obtain ⟨hc, hw⟩ := hcut
            subst hc
            rw [hw]; clear hw wc
            go_upto_if 131 with fail
            by_cases hA : row = (R : Int) - 2 ∧ col = 0 ∧ (C : Int) % 8 = 4 ∧ f4 = false
            · as_aux_lemma =>
                rw [decide_eq_true hA]
                have h3 := H0.out
                rw [if_pos hA] at h3
                obtain ⟨L', V', hL, htk, hrun⟩ := tk_spec h3
                simp only at htk hrun
                have HL := Lib.hid hL; clear hL h3
                have HRUN := Lib.hid hrun; clear hrun H0 hA
                go_wp2_with fail
                refine (rdCorn4 wo t pm bm pr br pv R C wm V V' HW.out.ps htk).mono ?_
                rintro e w2 ⟨rfl, hp2, hb2, _⟩
                have hput := HW.out.put HLT.out hp2 hb2 HL.out
                have hrow2 := hb2.row HW.out.row (show ¬ w.heap.size = br by have := HLT.out; omega)
                have hkl := hput.2.1
                rw [HN.out] at hkl hrow2
                have gc := hrow2.cell hkl
                have gf := hrow2.frozen k
                have HPUT := Lib.hid hput; clear hput hrow2 hp2 hb2
                go_wp2
                go_meet
                exact ⟨m0, ⟨row - 2, col + 2, V', f1, f2, f3, true⟩, k + 1, by omega, ⟨by rw [HPUT.out.2.2]; exact HRUN.out, HPUT.out.2.1⟩, by go_num, rfl, rfl, rfl, rfl, rfl, rfl, HPUT.out.1⟩
            · rw [decide_eq_false hA]
              have H1 : Hid _ := Lib.hid (by have h3 := H0.out; rewrite [if_neg hA] at h3; exact h3)
              clear H0
              have H0 := H1; clear H1 hA
              as_aux_lemma =>
                have hbd0 := hbd
                go_wp2_with fail
                go_loopg [5, 6, 7] m0 (fun n s5 s6 s7 wr => ∃ (row col : Int) (V k : Nat), n ≤ m0 ∧ At R C n 1 ⟨row, col, V, f1, f2, f3, f4⟩ k ∧ s5 = .int .i64 k ∧ s6 = .int .i64 row ∧ s7 = .int .i64 col ∧ RW w t pm bm pr br pv R C wm V k wr)
                case atStart => exact ⟨row, col, V, k, Nat.le_refl _, ⟨H0.out, hk⟩, rfl, rfl, rfl, HW.out⟩
                case round =>
                  clear H0 HW hk hbd hbd0 e0 e1
                  obtain ⟨row, col, V, k, hn1, hat, rfl, rfl, rfl, hrw⟩ := hrel
                  have hbd := runD_bnd hat.1
                  simp only at hbd
                  obtain ⟨m1, hm1, h1⟩ := runD_1 hat.1
                  simp only at h1
                  have hk := hat.2
                  clear hat
                  obtain ⟨gM, rfl⟩ : ∃ g, g = gk := ⟨_, rfl⟩
                  obtain ⟨wi, rfl⟩ : ∃ wi : World, wi = wr := ⟨_, rfl⟩
                  have HW := Lib.hid hrw; clear hrw
                  have H0 := Lib.hid h1; clear h1
                  have e1 := HW.out.ps.c1
                  obtain ⟨wsr, hbr2, hbits⟩ := HW.out.ps.rd
                  have HBR := Lib.hid hbr2; clear hbr2
                  have HBT := Lib.hid hbits; clear hbits
                  go_upto_region 35 with fail
                  go_cut [161] from 161 to 161 (fun c wx => c = .bool (decide (row < (R : Int) ∧ 0 ≤ col ∧ V.testBit (ix C (row, col)) = false)) ∧ wx = wi)
                  case first =>
                    as_aux_lemma =>
                      by_cases h1 : row < (R : Int)
                      · by_cases h2 : 0 ≤ col
                        · have hin : inR R C (row, col) = true := by
                            have h3 := H0.out
                            rw [if_pos ⟨h1, h2⟩, Bool.and_eq_true] at h3
                            exact h3.1
                          have hi2 := of_decide_eq_true hin
                          simp only at hi2
                          have K0 := Lib.hid (show row < (R : Int) ∧ 0 ≤ col from ⟨h1, h2⟩)
                          have gb := getBmI wi pr br C R col.toNat row.toNat col row wsr HBR.out (by omega) (by omega) (by omega) (by omega)
                          rw [HBT.out _ _ (by omega) (by omega), show row.toNat * C + col.toNat = ix C (row, col) from (ix_nat (C := C) (p := (row, col)) hi2.1 h2).symm] at gb
                          obtain ⟨bt, hbt⟩ : ∃ bt, V.testBit (ix C (row, col)) = bt := ⟨_, rfl⟩
                          rw [hbt] at gb
                          have HB2 := Lib.hid hbt; clear hbt hin hi2
                          go_wp2_with fail
                          refine gb.mono ?_
                          rintro e w' ⟨rfl, hw'⟩
                          obtain rfl := hw'
                          clear gb
                          go_wp2
                          go_meet
                          exact ⟨congrArg Value.bool (by rw [HB2.out]; cases bt <;> simp [K0.out]), rfl⟩
                        · have K0 := Lib.hid (show ¬ (row < (R : Int) ∧ 0 ≤ col ∧ V.testBit (ix C (row, col)) = false) from fun h => h2 h.2.1)
                          go_wp2
                          go_meet
                          exact ⟨congrArg Value.bool (by rw [decide_eq_false K0.out]), rfl⟩
                      · have K0 := Lib.hid (show ¬ (row < (R : Int) ∧ 0 ≤ col ∧ V.testBit (ix C (row, col)) = false) from fun h => h1 h.1)
                        go_wp2
                        go_meet
                        exact ⟨congrArg Value.bool (by rw [decide_eq_false K0.out]), rfl⟩
                  obtain ⟨hc, hw⟩ := hcut
                  subst hc
                  rw [hw]; clear hw wc
                  clear HBR HBT e1
                  go_upto_if 161 with fail
                  go_cut [5] from 161 to 172 (fun s5 wx => ∃ (V2 k2 : Nat), At R C m1 4 ⟨row, col, V2, f1, f2, f3, f4⟩ k2 ∧ s5 = .int .i64 k2 ∧ RW w t pm bm pr br pv R C wm V2 k2 wx)
                  case first =>
                    as_aux_lemma =>
                      by_cases hA : row < (R : Int) ∧ 0 ≤ col ∧ V.testBit (ix C (row, col)) = false
                      · rw [decide_eq_true hA]
                        have h3 := H0.out
                        rw [if_pos ⟨hA.1, hA.2.1⟩, hA.2.2, Bool.and_eq_true] at h3
                        have h4 := h3.2
                        rw [if_neg (by decide)] at h4
                        have hi2 := of_decide_eq_true h3.1
                        simp only at hi2
                        obtain ⟨L', V', hL, htk, hrun⟩ := tk_spec h4
                        simp only at htk hrun
                        have HL := Lib.hid hL; clear hL h3 h4
                        have HRUN := Lib.hid hrun; clear hrun H0 hA
                        go_wp2_with fail
                        refine (rdUtah wi t pm bm pr br pv R C wm V V' row col HW.out.ps ⟨by omega, by omega⟩ ⟨by omega, by omega⟩ htk).mono ?_
                        rintro e w2 ⟨rfl, hp2, hb2, _⟩
                        have hput := HW.out.put HLT.out hp2 hb2 HL.out
                        have hrow2 := hb2.row HW.out.row (show ¬ w.heap.size = br by have := HLT.out; omega)
                        have hkl := hput.2.1
                        rw [HN.out] at hkl hrow2
                        have gc := hrow2.cell hkl
                        have gf := hrow2.frozen k
                        have HPUT := Lib.hid hput; clear hput hrow2 hp2 hb2
                        go_wp2
                        go_meet
                        exact ⟨V', k + 1, ⟨by rw [HPUT.out.2.2]; exact HRUN.out, HPUT.out.2.1⟩, by go_num, HPUT.out.1⟩
                      · rw [decide_eq_false hA]
                        have h4 : runD R C m1 4 ⟨row, col, V, f1, f2, f3, f4⟩ ((layN R C).drop k) = true := by
                          have h3 := H0.out
                          split at h3
                          · rename_i hx
                            rw [Bool.and_eq_true] at h3
                            have h5 := h3.2
                            rw [if_pos (by cases ht : V.testBit (ix C (row, col)) with | true => rfl | false => exact absurd ⟨hx.1, hx.2, ht⟩ hA)] at h5
                            exact h5
                          · exact h3
                        have H4 := Lib.hid h4; clear h4 H0 hA
                        go_wp2
                        go_meet
                        exact ⟨V, k, ⟨H4.out, hk⟩, rfl, HW.out⟩
                  clear H0 HW hk
                  obtain ⟨V, k, hat, rfl, hrw⟩ := hcut
                  obtain ⟨wi2, rfl⟩ : ∃ wi2 : World, wi2 = wc := ⟨_, rfl⟩
                  have HW := Lib.hid hrw; clear hrw
                  obtain ⟨m2, hm2, h2⟩ := runD_4 hat.1
                  simp only at h2
                  have hk := hat.2
                  have H0 := Lib.hid h2; clear h2 hat
                  go_upto_region 40 with fail
                  go_cut [184] from 184 to 184 (fun c wx => c = .bool (!decide (row - 2 ≥ 0 ∧ col + 2 < (C : Int))) ∧ wx = wi2)
                  case first =>
                    as_aux_lemma =>
                      by_cases h1 : row - 2 ≥ 0
                      · by_cases h2 : col + 2 < (C : Int)
                        · have K0 := Lib.hid (show row - 2 ≥ 0 ∧ col + 2 < (C : Int) from ⟨h1, h2⟩)
                          go_wp2
                          go_meet
                          exact ⟨congrArg Value.bool (by rw [decide_eq_true K0.out]; first | rfl | (simp; omega)), rfl⟩
                        · have K0 := Lib.hid (show ¬ (row - 2 ≥ 0 ∧ col + 2 < (C : Int)) from fun h => h2 h.2)
                          go_wp2
                          go_meet
                          exact ⟨congrArg Value.bool (by rw [decide_eq_false K0.out]; first | rfl | (simp; omega)), rfl⟩
                      · have K0 := Lib.hid (show ¬ (row - 2 ≥ 0 ∧ col + 2 < (C : Int)) from fun h => h1 h.1)
                        go_wp2
                        go_meet
                        exact ⟨congrArg Value.bool (by rw [decide_eq_false K0.out]; first | rfl | (simp; omega)), rfl⟩
                  obtain ⟨hc, hw⟩ := hcut
                  subst hc
                  rw [hw]; clear hw wc
                  by_cases hA : row - 2 ≥ 0 ∧ col + 2 < (C : Int)
                  · rw [decide_eq_true hA]
                    have H4 : Hid _ := Lib.hid (by have h3 := H0.out; rewrite [if_pos hA] at h3; exact h3)
                    clear H0 hA
                    go_wp2
                    go_roundg m2
                    case rel => exact ⟨row - 2, col + 2, V, k, by omega, ⟨H4.out, hk⟩, rfl, by go_num, by go_num, HW.out⟩
                    case measure => omega
                  · rw [decide_eq_false hA]
                    have H4 : Hid _ := Lib.hid (by have h3 := H0.out; rewrite [if_neg hA] at h3; exact h3)
                    clear H0 hA
                    as_aux_lemma =>
                      go_wp2_with fail
                      go_loopg [5, 6, 7] m2 (fun n s5 s6 s7 wr => ∃ (row col : Int) (V k : Nat), n ≤ m2 ∧ At R C n 2 ⟨row, col, V, f1, f2, f3, f4⟩ k ∧ s5 = .int .i64 k ∧ s6 = .int .i64 row ∧ s7 = .int .i64 col ∧ RW w t pm bm pr br pv R C wm V k wr)
                      case atStart => exact ⟨row - 1, col + 5, V, k, Nat.le_refl _, ⟨H4.out, hk⟩, rfl, by go_num, by go_num, HW.out⟩
                      case round =>
                        clear H4 HW hk hbd
                        obtain ⟨row, col, V, k, hn3, hat, rfl, rfl, rfl, hrw⟩ := hrel
                        have hbd := runD_bnd hat.1
                        simp only at hbd
                        obtain ⟨m4, hm4, h1⟩ := runD_2 hat.1
                        simp only at h1
                        have hk := hat.2
                        clear hat
                        obtain ⟨gK, rfl⟩ : ∃ g, g = gk := ⟨_, rfl⟩
                        obtain ⟨wj, rfl⟩ : ∃ wj : World, wj = wr := ⟨_, rfl⟩
                        have HW := Lib.hid hrw; clear hrw
                        have H0 := Lib.hid h1; clear h1
                        have e1 := HW.out.ps.c1
                        obtain ⟨wsr, hbr2, hbits⟩ := HW.out.ps.rd
                        have HBR := Lib.hid hbr2; clear hbr2
                        have HBT := Lib.hid hbits; clear hbits
                        go_upto_region 43 with fail
                        go_cut [205] from 205 to 205 (fun c wx => c = .bool (decide (row ≥ 0 ∧ col < (C : Int) ∧ V.testBit (ix C (row, col)) = false)) ∧ wx = wj)
                        case first =>
                          as_aux_lemma =>
                            by_cases h1 : row ≥ 0
                            · by_cases h2 : col < (C : Int)
                              · have hin : inR R C (row, col) = true := by
                                  have h3 := H0.out
                                  rw [if_pos ⟨h1, h2⟩, Bool.and_eq_true] at h3
                                  exact h3.1
                                have hi2 := of_decide_eq_true hin
                                simp only at hi2
                                have K0 := Lib.hid (show row ≥ 0 ∧ col < (C : Int) from ⟨h1, h2⟩)
                                have gb := getBmI wj pr br C R col.toNat row.toNat col row wsr HBR.out (by omega) (by omega) (by omega) (by omega)
                                rw [HBT.out _ _ (by omega) (by omega), show row.toNat * C + col.toNat = ix C (row, col) from (ix_nat (C := C) (p := (row, col)) hi2.1 hi2.2.2.1).symm] at gb
                                obtain ⟨bt, hbt⟩ : ∃ bt, V.testBit (ix C (row, col)) = bt := ⟨_, rfl⟩
                                rw [hbt] at gb
                                have HB2 := Lib.hid hbt; clear hbt hin hi2
                                go_wp2_with fail
                                refine gb.mono ?_
                                rintro e w' ⟨rfl, hw'⟩
                                obtain rfl := hw'
                                clear gb
                                go_wp2
                                go_meet
                                exact ⟨congrArg Value.bool (by rw [HB2.out]; cases bt <;> simp [K0.out]), rfl⟩
                              · have K0 := Lib.hid (show ¬ (row ≥ 0 ∧ col < (C : Int) ∧ V.testBit (ix C (row, col)) = false) from fun h => h2 h.2.1)
                                go_wp2
                                go_meet
                                exact ⟨congrArg Value.bool (by rw [decide_eq_false K0.out]), rfl⟩
                            · have K0 := Lib.hid (show ¬ (row ≥ 0 ∧ col < (C : Int) ∧ V.testBit (ix C (row, col)) = false) from fun h => h1 h.1)
                              go_wp2
                              go_meet
                              exact ⟨congrArg Value.bool (by rw [decide_eq_false K0.out]), rfl⟩
                        obtain ⟨hc, hw⟩ := hcut
                        subst hc
                        rw [hw]; clear hw wc
                        clear HBR HBT e1
                        go_upto_if 205 with fail
                        go_cut [5] from 205 to 216 (fun s5 wx => ∃ (V2 k2 : Nat), At R C m4 5 ⟨row, col, V2, f1, f2, f3, f4⟩ k2 ∧ s5 = .int .i64 k2 ∧ RW w t pm bm pr br pv R C wm V2 k2 wx)
                        case first =>
                          as_aux_lemma =>
                            by_cases hA : row ≥ 0 ∧ col < (C : Int) ∧ V.testBit (ix C (row, col)) = false
                            · rw [decide_eq_true hA]
                              have h3 := H0.out
                              rw [if_pos ⟨hA.1, hA.2.1⟩, hA.2.2, Bool.and_eq_true] at h3
                              have h4 := h3.2
                              rw [if_neg (by decide)] at h4
                              have hi2 := of_decide_eq_true h3.1
                              simp only at hi2
                              obtain ⟨L', V', hL, htk, hrun⟩ := tk_spec h4
                              simp only at htk hrun
                              have HL := Lib.hid hL; clear hL h3 h4
                              have HRUN := Lib.hid hrun; clear hrun H0 hA
                              go_wp2_with fail
                              refine (rdUtah wj t pm bm pr br pv R C wm V V' row col HW.out.ps ⟨by omega, by omega⟩ ⟨by omega, by omega⟩ htk).mono ?_
                              rintro e w2 ⟨rfl, hp2, hb2, _⟩
                              have hput := HW.out.put HLT.out hp2 hb2 HL.out
                              have hrow2 := hb2.row HW.out.row (show ¬ w.heap.size = br by have := HLT.out; omega)
                              have hkl := hput.2.1
                              rw [HN.out] at hkl hrow2
                              have gc := hrow2.cell hkl
                              have gf := hrow2.frozen k
                              have HPUT := Lib.hid hput; clear hput hrow2 hp2 hb2
                              go_wp2
                              go_meet
                              exact ⟨V', k + 1, ⟨by rw [HPUT.out.2.2]; exact HRUN.out, HPUT.out.2.1⟩, by go_num, HPUT.out.1⟩
                            · rw [decide_eq_false hA]
                              have h4 : runD R C m4 5 ⟨row, col, V, f1, f2, f3, f4⟩ ((layN R C).drop k) = true := by
                                have h3 := H0.out
                                split at h3
                                · rename_i hx
                                  rw [Bool.and_eq_true] at h3
                                  have h5 := h3.2
                                  rw [if_pos (by cases ht : V.testBit (ix C (row, col)) with | true => rfl | false => exact absurd ⟨hx.1, hx.2, ht⟩ hA)] at h5
                                  exact h5
                                · exact h3
                              have H4 := Lib.hid h4; clear h4 H0 hA
                              go_wp2
                              go_meet
                              exact ⟨V, k, ⟨H4.out, hk⟩, rfl, HW.out⟩
                        clear H0 HW hk
                        obtain ⟨V, k, hat, rfl, hrw⟩ := hcut
                        obtain ⟨wj2, rfl⟩ : ∃ wj2 : World, wj2 = wc := ⟨_, rfl⟩
                        have HW := Lib.hid hrw; clear hrw
                        obtain ⟨m5, hm5, h2⟩ := runD_5 hat.1
                        simp only at h2
                        have hk := hat.2
                        have H0 := Lib.hid h2; clear h2 hat
                        go_upto_region 48 with fail
                        go_cut [228] from 228 to 228 (fun c wx => c = .bool (!decide (row + 2 < (R : Int) ∧ col - 2 ≥ 0)) ∧ wx = wj2)
                        case first =>
                          as_aux_lemma =>
                            by_cases h1 : row + 2 < (R : Int)
                            · by_cases h2 : col - 2 ≥ 0
                              · have K0 := Lib.hid (show row + 2 < (R : Int) ∧ col - 2 ≥ 0 from ⟨h1, h2⟩)
                                go_wp2
                                go_meet
                                exact ⟨congrArg Value.bool (by rw [decide_eq_true K0.out]; first | rfl | (simp; omega)), rfl⟩
                              · have K0 := Lib.hid (show ¬ (row + 2 < (R : Int) ∧ col - 2 ≥ 0) from fun h => h2 h.2)
                                go_wp2
                                go_meet
                                exact ⟨congrArg Value.bool (by rw [decide_eq_false K0.out]; first | rfl | (simp; omega)), rfl⟩
                            · have K0 := Lib.hid (show ¬ (row + 2 < (R : Int) ∧ col - 2 ≥ 0) from fun h => h1 h.1)
                              go_wp2
                              go_meet
                              exact ⟨congrArg Value.bool (by rw [decide_eq_false K0.out]; first | rfl | (simp; omega)), rfl⟩
                        obtain ⟨hc, hw⟩ := hcut
                        subst hc
                        rw [hw]; clear hw wc
                        by_cases hA : row + 2 < (R : Int) ∧ col - 2 ≥ 0
                        · rw [decide_eq_true hA]
                          have H4 : Hid _ := Lib.hid (by have h3 := H0.out; rewrite [if_pos hA] at h3; exact h3)
                          clear H0 hA
                          go_wp2
                          go_roundg m5
                          case rel => exact ⟨row + 2, col - 2, V, k, by omega, ⟨H4.out, hk⟩, rfl, by go_num, by go_num, HW.out⟩
                          case measure => omega
                        · rw [decide_eq_false hA]
                          have H4 : Hid _ := Lib.hid (by have h3 := H0.out; rewrite [if_neg hA] at h3; exact h3)
                          clear H0 hA
                          go_wp2
                          go_meet
                          exact ⟨m5, ⟨row + 5, col - 1, V, f1, f2, f3, f4⟩, k, by omega, ⟨H4.out, hk⟩, rfl, by go_num, by go_num, rfl, rfl, rfl, rfl, HW.out⟩
end Go.Proofs.YtcnallabiffemaaGreatDoor
