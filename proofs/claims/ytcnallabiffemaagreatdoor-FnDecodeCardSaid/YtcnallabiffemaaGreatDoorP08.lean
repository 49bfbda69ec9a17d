import Derived.Test.YtcnallabiffemaaGreatDoorP06
import Derived.Test.YtcnallabiffemaaGreatDoorP07
/- Part of the proof that a Data Matrix symbol of a text, damaged at most to half of its check codewords in each block, is decoded to the text (FnDecode): texts E25. -/
set_option linter.unusedVariables false
set_option linter.unusedSimpArgs false
namespace Go.Proofs.YtcnallabiffemaaGreatDoor
open Go.RowKit (wrap32 wrap64 intOf Hid Below)
open Zx

theorem hasI (w : World) (p b R C cb m cc : Nat) (ws : Nat → Nat) (g : Nat → Int) (row col : Int) (h : Pw w p b R C cb m cc ws (fun i => mdv ws (g i))) (hin : inR R C (row, col) = true) : Calls Tryz.prog 147 #[pt p, .int .i64 col, .int .i64 row] w fun e w' => e = .returned (.bool (decide (0 ≤ g (ix C (row, col))))) ∧ ∃ n, w' = w.drewN n := by
  have h0 : 0 ≤ row ∧ row < R ∧ 0 ≤ col ∧ col < C := of_decide_eq_true hin
  obtain ⟨y, rfl⟩ : ∃ y : Nat, row = y := ⟨row.toNat, by omega⟩
  obtain ⟨x, rfl⟩ : ∃ x : Nat, col = x := ⟨col.toNat, by omega⟩
  have hix : ix C ((y : Int), (x : Int)) = y * C + x := by unfold ix; rw [← Int.natCast_mul]; omega
  have := hasC w p b R C cb m cc x y ws _ h (by omega) (by omega)
  rw [hix]
  rwa [show decide (0 ≤ mdv ws (g (y * C + x))) = decide (0 ≤ g (y * C + x)) from decide_eq_decide.2 (mdv_sgn _ _)] at this
theorem setI (w : World) (p b R C cb m cc x y : Nat) (col row : Int) (ws : Nat → Nat) (f : Nat → Int) (h : Pw w p b R C cb m cc ws f) (hx : x < C) (hy : y < R) (hc : col = x) (hr : row = y) (bit : Bool) : Calls Tryz.prog 149 #[pt p, .int .i64 col, .int .i64 row, .bool bit] w (SbTo w p b R C cb m cc ws (fun i => if i = y * C + x then (if bit then 1 else 0) else f i)) := by
  subst hc hr
  exact setC w p b R C cb m cc x y ws f h hx hy bit
/-- the placement under way -/
def Wk (w wr : World) (p b R C cb m cc : Nat) (ws : Nat → Nat) (g : Nat → Int) : Prop := Pw wr p b R C cb m cc ws (fun i => mdv ws (g i)) ∧ But (· = b) w wr
theorem Wk.put {w wr w' : World} {p b R C cb m cc : Nat} {ws : Nat → Nat} {g g' : Nat → Int} (h : Wk w wr p b R C cb m cc ws g) {e : Ending} (k : MdTo wr p b R C cb m cc ws g' e w') : e = .returned (.tuple #[]) ∧ Wk w w' p b R C cb m cc ws g' := ⟨k.1, k.2.1, h.2.trans k.2.2.1⟩
theorem Wk.dn {w wr : World} {p b R C cb m cc : Nat} {ws : Nat → Nat} {g : Nat → Int} (h : Wk w wr p b R C cb m cc ws g) (n : Nat) : Wk w (wr.drewN n) p b R C cb m cc ws g := ⟨h.1.dn n, h.2.thenDn n⟩
/-- what is left of a round's corners -/
def RJ (R C m0 ci j k0 : Nat) (row col : Int) (g0 : Nat → Int) (k : Nat) (g : Nat → Int) : Prop := (1 ≤ ci ∧ ci ≤ j → ∃ V, Eat R C m0 1 ⟨row, col, V⟩ k g) ∧ (¬ (1 ≤ ci ∧ ci ≤ j) → k = k0 ∧ g = g0)
theorem RJ.skip {R C m0 ci j k0 : Nat} {row col : Int} {g0 g : Nat → Int} {k : Nat} (h : RJ R C m0 ci j k0 row col g0 k g) (hn : ci ≠ j + 1) : RJ R C m0 ci (j + 1) k0 row col g0 k g := ⟨fun h1 => h.1 ⟨h1.1, by omega⟩, fun h1 => h.2 (fun h2 => h1 ⟨h2.1, by omega⟩)⟩

def PlTo (w : World) (p b R C cb m cc : Nat) (ws : Nat → Nat) (e : Ending) (w' : World) : Prop :=
  e = .returned (.tuple #[]) ∧ ∃ g V, Laid R C g V (layN R C) ∧ Pw w' p b R C cb m cc ws (if 0 ≤ g (ix C ((R : Int) - 1, (C : Int) - 1)) then fun i => mdv ws (g i) else fun i => if i = (R - 2) * C + (C - 2) then 1 else if i = (R - 1) * C + (C - 1) then 1 else mdv ws (g i)) ∧ But (· = b) w w'

set_option maxRecDepth 100000 in
set_option maxHeartbeats 40000000 in
theorem placeC (w : World) (p b R C cb m cc : Nat) (ws : Nat → Nat) (h : Pw w p b R C cb m cc ws (fun _ => -1)) (hok : okE R C = true) (hlen : (layN R C).length ≤ m) (hm : m ≤ 5000) : Calls Tryz.prog 73 #[pt p] w (PlTo w p b R C cb m cc ws) := by
  have hsz := h.sz
  obtain ⟨c4, hc4⟩ : ∃ c4, (C : Int) % 4 = c4 := ⟨_, rfl⟩
  obtain ⟨c8, hc8⟩ : ∃ c8, (C : Int) % 8 = c8 := ⟨_, rfl⟩
  have q4 : (C : Int).tmod 4 = c4 := by rw [Int.tmod_eq_emod_of_nonneg (by omega)]; exact hc4
  have q8 : (C : Int).tmod 8 = c8 := by rw [Int.tmod_eq_emod_of_nonneg (by omega)]; exact hc8
  have HC4 := Lib.hid hc4; have HC8 := Lib.hid hc8
  clear hc4 hc8
  have W0 : Hid (Wk w w p b R C cb m cc ws (fun _ => -1)) := Lib.hid ⟨h, But.refl _ _⟩
  have e0 := Lib.hid (Eat.start hok)
  clear h hok
  have HLEN := Lib.hid hlen; clear hlen
  go_enter Tryz.func73, Tryz.ntmps73
  go_wp2_with fail
  go_loopg [2, 3, 4] (fuelD R C) (fun n s2 s3 s4 wr => ∃ (row col : Int) (V k : Nat) (g : Nat → Int), Eat R C n 0 ⟨row, col, V⟩ k g ∧ s2 = .int .i64 k ∧ s3 = .int .i64 row ∧ s4 = .int .i64 col ∧ Wk w wr p b R C cb m cc ws g)
  case atStart => exact ⟨4, 0, 0, 0, fun _ => -1, e0.out, rfl, rfl, rfl, W0.out⟩
  case round =>
    clear W0 e0
    obtain ⟨row, col, V, k, g, hat, rfl, rfl, rfl, hwk⟩ := hrel
    obtain ⟨gN, rfl⟩ : ∃ g, g = gk := ⟨_, rfl⟩
    obtain ⟨wo, rfl⟩ : ∃ wo : World, wo = wr := ⟨_, rfl⟩
    have hbd := hat.bnd
    simp only at hbd
    obtain ⟨m0, hm0, hnone, hsome⟩ := hat.head
    simp only at hnone hsome
    have HM0 := Lib.hid hm0
    have hk1 := hat.le
    have hkm : k ≤ 5000 := by have := HLEN.out; omega
    clear hat hm0 hk1
    obtain ⟨ci, hci4, k1, k2, k3, k4, n0, n1, n2, n3, n4⟩ := corner_ci R C row col
    have NONE := Lib.hid (fun hc => hnone (n0 hc))
    have S1 := Lib.hid (fun hc => hsome _ (n1 hc))
    have S2 := Lib.hid (fun hc => hsome _ (n2 hc))
    have S3 := Lib.hid (fun hc => hsome _ (n3 hc))
    have S4 := Lib.hid (fun hc => hsome _ (n4 hc))
    rw [HC4.out] at k2
    rw [HC8.out] at k3 k4
    have K1 := Lib.hid k1; have K2 := Lib.hid k2; have K3 := Lib.hid k3; have K4 := Lib.hid k4
    clear hnone hsome n0 n1 n2 n3 n4 k1 k2 k3 k4
    have r0 : RJ R C m0 ci 0 k row col g k g := ⟨fun h => absurd h (by omega), fun _ => ⟨rfl, rfl⟩⟩
    have R0 := Lib.hid r0; clear r0
    have WK0 := Lib.hid hwk; clear hwk
    have CI4 := Lib.hid hci4; clear hci4
    have d1 : wo.cell? ⟨p, 1, none⟩ = some (.int .i64 R) := WK0.out.1.box.cell (i := 1) (by omega)
    have d2 : wo.cell? ⟨p, 2, none⟩ = some (.int .i64 C) := WK0.out.1.box.cell (i := 2) (by omega)
    go_upto_region 3 with fail
    go_cut [14] from 5 to 14 (fun c wx => c = .bool (decide (ci = 1)) ∧ wx = wo)
    case first =>
      as_aux_lemma =>
        by_cases h0 : row = (R : Int)
        · by_cases h1 : col = 0
          · have KK := Lib.hid (decide_eq_true (K1.out.1 ⟨h0, h1⟩))
            have q0 := int_bt h0
            have q1 := int_bt h1
            clear h0 h1
            go_wp2
            go_meet
            exact ⟨congrArg Value.bool (by rw [KK.out]), rfl⟩
          · have KK := Lib.hid (decide_eq_false (fun hc => h1 ((fun h => h.2) (K1.out.2 hc))))
            have q0 := int_bt h0
            have q1 := int_bf h1
            clear h0 h1
            go_wp2
            go_meet
            exact ⟨congrArg Value.bool (by rw [KK.out]), rfl⟩
        · have KK := Lib.hid (decide_eq_false (fun hc => h0 ((fun h => h.1) (K1.out.2 hc))))
          have q0 := int_bf h0
          clear h0
          go_wp2
          go_meet
          exact ⟨congrArg Value.bool (by rw [KK.out]), rfl⟩
    obtain ⟨hc, hw⟩ := hcut
    subst hc
    rw [hw]; clear hw wc
    go_upto_if 14 with fail
    go_cut [2] from 14 to 19 (fun s2 wx => ∃ (kq : Nat) (gq : Nat → Int), s2 = .int .i64 kq ∧ kq ≤ 5000 ∧ Wk w wx p b R C cb m cc ws gq ∧ RJ R C m0 ci 1 k row col g kq gq)
    case first =>
      as_aux_lemma =>
        by_cases hci : ci = 1
        · rw [decide_eq_true hci]
          obtain ⟨hkk, hgg⟩ := R0.out.2 (fun h => by omega)
          obtain ⟨⟨V2, hE⟩, hin, hkl⟩ := S1.out hci
          have hkm2 : k < m := by rw [hkk]; have := HLEN.out; omega
          have HE : Hid (Eat R C m0 1 ⟨row, col, V2⟩ (k + 1) (putB C g (corn1 R C) (8 * (k : Int)))) := Lib.hid (by rw [hkk, hgg]; exact hE)
          have HCI := Lib.hid hci
          clear hE hkk hgg hci
          go_wp2_with fail
          refine (corn1E wo p b R C cb m cc ws g k WK0.out.1 hin hkm2 hm).mono ?_
          intro e w2 hmd
          obtain ⟨rfl, hwk2⟩ := WK0.out.put hmd
          clear hmd
          have WK2 := Lib.hid hwk2; clear hwk2
          go_wp2
          go_meet
          exact ⟨k + 1, _, by go_num, by omega, WK2.out, fun _ => ⟨V2, HE.out⟩, fun h => absurd ⟨by rw [HCI.out]; decide, by rw [HCI.out]; decide⟩ h⟩
        · rw [decide_eq_false hci]
          have R2 := Lib.hid (R0.out.skip hci)
          clear hci
          go_wp2
          go_meet
          exact ⟨k, g, rfl, hkm, WK0.out, R2.out⟩
    clear d1 d2 R0 WK0 K1 S1
    obtain ⟨kq1, gq1, rfl, hkq1, hwk, hrj⟩ := hcut
    obtain ⟨wq1, rfl⟩ : ∃ wq : World, wq = wc := ⟨_, rfl⟩
    have WK1 := Lib.hid hwk; clear hwk
    have R1 := Lib.hid hrj; clear hrj
    have d1 : wq1.cell? ⟨p, 1, none⟩ = some (.int .i64 R) := WK1.out.1.box.cell (i := 1) (by omega)
    have d2 : wq1.cell? ⟨p, 2, none⟩ = some (.int .i64 C) := WK1.out.1.box.cell (i := 2) (by omega)
    go_upto_region 6 with fail
    go_cut [38] from 20 to 38 (fun c wx => c = .bool (decide (ci = 2)) ∧ wx = wq1)
    case first =>
      as_aux_lemma =>
        by_cases h0 : row = (R : Int) - 2
        · by_cases h1 : col = 0
          · by_cases h2 : ¬ c4 = 0
            · have KK := Lib.hid (decide_eq_true (K2.out.1 ⟨h0, h1, h2⟩))
              have q0 := int_bt h0
              have q1 := int_bt h1
              have q2 := int_nt h2
              clear h0 h1 h2
              go_wp2
              go_meet
              exact ⟨congrArg Value.bool (by rw [KK.out]), rfl⟩
            · have KK := Lib.hid (decide_eq_false (fun hc => h2 ((fun h => h.2.2) (K2.out.2 hc))))
              have q0 := int_bt h0
              have q1 := int_bt h1
              have q2 := int_nf (Classical.not_not.1 h2)
              clear h0 h1 h2
              go_wp2
              go_meet
              exact ⟨congrArg Value.bool (by rw [KK.out]), rfl⟩
          · have KK := Lib.hid (decide_eq_false (fun hc => h1 ((fun h => h.2.1) (K2.out.2 hc))))
            have q0 := int_bt h0
            have q1 := int_bf h1
            clear h0 h1
            go_wp2
            go_meet
            exact ⟨congrArg Value.bool (by rw [KK.out]), rfl⟩
        · have KK := Lib.hid (decide_eq_false (fun hc => h0 ((fun h => h.1) (K2.out.2 hc))))
          have q0 := int_bf h0
          clear h0
          go_wp2
          go_meet
          exact ⟨congrArg Value.bool (by rw [KK.out]), rfl⟩
    obtain ⟨hc, hw⟩ := hcut
    subst hc
    rw [hw]; clear hw wc
    go_upto_if 38 with fail
    go_cut [2] from 38 to 43 (fun s2 wx => ∃ (kq : Nat) (gq : Nat → Int), s2 = .int .i64 kq ∧ kq ≤ 5000 ∧ Wk w wx p b R C cb m cc ws gq ∧ RJ R C m0 ci 2 k row col g kq gq)
    case first =>
      as_aux_lemma =>
        by_cases hci : ci = 2
        · rw [decide_eq_true hci]
          obtain ⟨hkk, hgg⟩ := R1.out.2 (fun h => by omega)
          obtain ⟨⟨V2, hE⟩, hin, hkl⟩ := S2.out hci
          have hkm2 : kq1 < m := by rw [hkk]; have := HLEN.out; omega
          have HE : Hid (Eat R C m0 1 ⟨row, col, V2⟩ (kq1 + 1) (putB C gq1 (corn2 R C) (8 * (kq1 : Int)))) := Lib.hid (by rw [hkk, hgg]; exact hE)
          have HCI := Lib.hid hci
          clear hE hkk hgg hci
          go_wp2_with fail
          refine (corn2E wq1 p b R C cb m cc ws gq1 kq1 WK1.out.1 hin hkm2 hm).mono ?_
          intro e w2 hmd
          obtain ⟨rfl, hwk2⟩ := WK1.out.put hmd
          clear hmd
          have WK2 := Lib.hid hwk2; clear hwk2
          go_wp2
          go_meet
          exact ⟨kq1 + 1, _, by go_num, by omega, WK2.out, fun _ => ⟨V2, HE.out⟩, fun h => absurd ⟨by rw [HCI.out]; decide, by rw [HCI.out]; decide⟩ h⟩
        · rw [decide_eq_false hci]
          have R2 := Lib.hid (R1.out.skip hci)
          clear hci
          go_wp2
          go_meet
          exact ⟨kq1, gq1, rfl, hkq1, WK1.out, R2.out⟩
    clear d1 d2 R1 WK1 K2 S2
    obtain ⟨kq2, gq2, rfl, hkq2, hwk, hrj⟩ := hcut
    obtain ⟨wq2, rfl⟩ : ∃ wq : World, wq = wc := ⟨_, rfl⟩
    have WK2 := Lib.hid hwk; clear hwk
    have R2 := Lib.hid hrj; clear hrj
    have d1 : wq2.cell? ⟨p, 1, none⟩ = some (.int .i64 R) := WK2.out.1.box.cell (i := 1) (by omega)
    have d2 : wq2.cell? ⟨p, 2, none⟩ = some (.int .i64 C) := WK2.out.1.box.cell (i := 2) (by omega)
    go_upto_region 9 with fail
    go_cut [62] from 44 to 62 (fun c wx => c = .bool (decide (ci = 3)) ∧ wx = wq2)
    case first =>
      as_aux_lemma =>
        by_cases h0 : row = (R : Int) - 2
        · by_cases h1 : col = 0
          · by_cases h2 : c8 = 4
            · have KK := Lib.hid (decide_eq_true (K3.out.1 ⟨h0, h1, h2⟩))
              have q0 := int_bt h0
              have q1 := int_bt h1
              have q2 := int_bt h2
              clear h0 h1 h2
              go_wp2
              go_meet
              exact ⟨congrArg Value.bool (by rw [KK.out]), rfl⟩
            · have KK := Lib.hid (decide_eq_false (fun hc => h2 ((fun h => h.2.2) (K3.out.2 hc))))
              have q0 := int_bt h0
              have q1 := int_bt h1
              have q2 := int_bf h2
              clear h0 h1 h2
              go_wp2
              go_meet
              exact ⟨congrArg Value.bool (by rw [KK.out]), rfl⟩
          · have KK := Lib.hid (decide_eq_false (fun hc => h1 ((fun h => h.2.1) (K3.out.2 hc))))
            have q0 := int_bt h0
            have q1 := int_bf h1
            clear h0 h1
            go_wp2
            go_meet
            exact ⟨congrArg Value.bool (by rw [KK.out]), rfl⟩
        · have KK := Lib.hid (decide_eq_false (fun hc => h0 ((fun h => h.1) (K3.out.2 hc))))
          have q0 := int_bf h0
          clear h0
          go_wp2
          go_meet
          exact ⟨congrArg Value.bool (by rw [KK.out]), rfl⟩
    obtain ⟨hc, hw⟩ := hcut
    subst hc
    rw [hw]; clear hw wc
    go_upto_if 62 with fail
    go_cut [2] from 62 to 67 (fun s2 wx => ∃ (kq : Nat) (gq : Nat → Int), s2 = .int .i64 kq ∧ kq ≤ 5000 ∧ Wk w wx p b R C cb m cc ws gq ∧ RJ R C m0 ci 3 k row col g kq gq)
    case first =>
      as_aux_lemma =>
        by_cases hci : ci = 3
        · rw [decide_eq_true hci]
          obtain ⟨hkk, hgg⟩ := R2.out.2 (fun h => by omega)
          obtain ⟨⟨V2, hE⟩, hin, hkl⟩ := S3.out hci
          have hkm2 : kq2 < m := by rw [hkk]; have := HLEN.out; omega
          have HE : Hid (Eat R C m0 1 ⟨row, col, V2⟩ (kq2 + 1) (putB C gq2 (corn4 R C) (8 * (kq2 : Int)))) := Lib.hid (by rw [hkk, hgg]; exact hE)
          have HCI := Lib.hid hci
          clear hE hkk hgg hci
          go_wp2_with fail
          refine (corn4E wq2 p b R C cb m cc ws gq2 kq2 WK2.out.1 hin hkm2 hm).mono ?_
          intro e w2 hmd
          obtain ⟨rfl, hwk2⟩ := WK2.out.put hmd
          clear hmd
          have WK2 := Lib.hid hwk2; clear hwk2
          go_wp2
          go_meet
          exact ⟨kq2 + 1, _, by go_num, by omega, WK2.out, fun _ => ⟨V2, HE.out⟩, fun h => absurd ⟨by rw [HCI.out]; decide, by rw [HCI.out]; decide⟩ h⟩
        · rw [decide_eq_false hci]
          have R2 := Lib.hid (R2.out.skip hci)
          clear hci
          go_wp2
          go_meet
          exact ⟨kq2, gq2, rfl, hkq2, WK2.out, R2.out⟩
    clear d1 d2 R2 WK2 K3 S3
    obtain ⟨kq3, gq3, rfl, hkq3, hwk, hrj⟩ := hcut
    obtain ⟨wq3, rfl⟩ : ∃ wq : World, wq = wc := ⟨_, rfl⟩
    have WK3 := Lib.hid hwk; clear hwk
    have R3 := Lib.hid hrj; clear hrj
    have d1 : wq3.cell? ⟨p, 1, none⟩ = some (.int .i64 R) := WK3.out.1.box.cell (i := 1) (by omega)
    have d2 : wq3.cell? ⟨p, 2, none⟩ = some (.int .i64 C) := WK3.out.1.box.cell (i := 2) (by omega)
    go_upto_region 12 with fail
    go_cut [86] from 68 to 86 (fun c wx => c = .bool (decide (ci = 4)) ∧ wx = wq3)
    case first =>
      as_aux_lemma =>
        by_cases h0 : row = (R : Int) + 4
        · by_cases h1 : col = 2
          · by_cases h2 : c8 = 0
            · have KK := Lib.hid (decide_eq_true (K4.out.1 ⟨h0, h1, h2⟩))
              have q0 := int_bt h0
              have q1 := int_bt h1
              have q2 := int_bt h2
              clear h0 h1 h2
              go_wp2
              go_meet
              exact ⟨congrArg Value.bool (by rw [KK.out]), rfl⟩
            · have KK := Lib.hid (decide_eq_false (fun hc => h2 ((fun h => h.2.2) (K4.out.2 hc))))
              have q0 := int_bt h0
              have q1 := int_bt h1
              have q2 := int_bf h2
              clear h0 h1 h2
              go_wp2
              go_meet
              exact ⟨congrArg Value.bool (by rw [KK.out]), rfl⟩
          · have KK := Lib.hid (decide_eq_false (fun hc => h1 ((fun h => h.2.1) (K4.out.2 hc))))
            have q0 := int_bt h0
            have q1 := int_bf h1
            clear h0 h1
            go_wp2
            go_meet
            exact ⟨congrArg Value.bool (by rw [KK.out]), rfl⟩
        · have KK := Lib.hid (decide_eq_false (fun hc => h0 ((fun h => h.1) (K4.out.2 hc))))
          have q0 := int_bf h0
          clear h0
          go_wp2
          go_meet
          exact ⟨congrArg Value.bool (by rw [KK.out]), rfl⟩
    obtain ⟨hc, hw⟩ := hcut
    subst hc
    rw [hw]; clear hw wc
    go_upto_if 86 with fail
    go_cut [2] from 86 to 91 (fun s2 wx => ∃ (kq : Nat) (gq : Nat → Int), s2 = .int .i64 kq ∧ kq ≤ 5000 ∧ Wk w wx p b R C cb m cc ws gq ∧ RJ R C m0 ci 4 k row col g kq gq)
    case first =>
      as_aux_lemma =>
        by_cases hci : ci = 4
        · rw [decide_eq_true hci]
          obtain ⟨hkk, hgg⟩ := R3.out.2 (fun h => by omega)
          obtain ⟨⟨V2, hE⟩, hin, hkl⟩ := S4.out hci
          have hkm2 : kq3 < m := by rw [hkk]; have := HLEN.out; omega
          have HE : Hid (Eat R C m0 1 ⟨row, col, V2⟩ (kq3 + 1) (putB C gq3 (corn3 R C) (8 * (kq3 : Int)))) := Lib.hid (by rw [hkk, hgg]; exact hE)
          have HCI := Lib.hid hci
          clear hE hkk hgg hci
          go_wp2_with fail
          refine (corn3E wq3 p b R C cb m cc ws gq3 kq3 WK3.out.1 hin hkm2 hm).mono ?_
          intro e w2 hmd
          obtain ⟨rfl, hwk2⟩ := WK3.out.put hmd
          clear hmd
          have WK2 := Lib.hid hwk2; clear hwk2
          go_wp2
          go_meet
          exact ⟨kq3 + 1, _, by go_num, by omega, WK2.out, fun _ => ⟨V2, HE.out⟩, fun h => absurd ⟨by rw [HCI.out]; decide, by rw [HCI.out]; decide⟩ h⟩
        · rw [decide_eq_false hci]
          have R2 := Lib.hid (R3.out.skip hci)
          clear hci
          go_wp2
          go_meet
          exact ⟨kq3, gq3, rfl, hkq3, WK3.out, R2.out⟩
    clear d1 d2 R3 WK3 K4 S4
    obtain ⟨kq4, gq4, rfl, hkq4, hwk, hrj⟩ := hcut
    obtain ⟨wq4, rfl⟩ : ∃ wq : World, wq = wc := ⟨_, rfl⟩
    have WK4 := Lib.hid hwk; clear hwk
    have R4 := Lib.hid hrj; clear hrj
    have hE : ∃ V, Eat R C m0 1 ⟨row, col, V⟩ kq4 gq4 := by
      by_cases h : 1 ≤ ci ∧ ci ≤ 4
      · exact R4.out.1 h
      · obtain ⟨h1, h2⟩ := R4.out.2 h
        rw [h1, h2]
        exact ⟨V, NONE.out (by have := CI4.out; omega)⟩
    obtain ⟨V1, hE⟩ := hE
    have HE := Lib.hid hE; clear hE R4 NONE CI4 hkm
    go_wp2_with fail
    go_loopg [2, 3, 4] m0 (fun n s2 s3 s4 wr => ∃ (row col : Int) (V k : Nat) (g : Nat → Int), n ≤ m0 ∧ Eat R C n 1 ⟨row, col, V⟩ k g ∧ s2 = .int .i64 k ∧ s3 = .int .i64 row ∧ s4 = .int .i64 col ∧ Wk w wr p b R C cb m cc ws g)
    case atStart => exact ⟨row, col, V1, kq4, gq4, Nat.le_refl _, HE.out, rfl, rfl, rfl, WK4.out⟩
    case round =>
      clear HE WK4 hbd
      obtain ⟨row, col, V, k, g, hn1, hat, rfl, rfl, rfl, hwk⟩ := hrel
      obtain ⟨gU1, rfl⟩ : ∃ g, g = gk := ⟨_, rfl⟩
      obtain ⟨wi, rfl⟩ : ∃ wi : World, wi = wr := ⟨_, rfl⟩
      have hbd := hat.bnd
      simp only at hbd
      have hkm : k ≤ 5000 := by have := HLEN.out; have := hat.le; omega
      obtain ⟨m1, hm1, ha, hb⟩ := hat.up
      simp only at ha hb
      have HA := Lib.hid ha; have HB := Lib.hid hb
      have HM1 := Lib.hid hm1
      have HN1 := Lib.hid hn1
      clear ha hb hat hm1 hn1
      have WK := Lib.hid hwk; clear hwk
      have d1 : wi.cell? ⟨p, 1, none⟩ = some (.int .i64 R) := WK.out.1.box.cell (i := 1) (by omega)
      have d2 : wi.cell? ⟨p, 2, none⟩ = some (.int .i64 C) := WK.out.1.box.cell (i := 2) (by omega)
      go_upto_region 15 with fail
      go_cut [108] from 92 to 108 (fun c wx => ∃ nq, c = .bool (decide ((row < (R : Int)) ∧ (col ≥ 0) ∧ ¬ 0 ≤ g (ix C (row, col)))) ∧ wx = wi.drewN nq)
      case first =>
        as_aux_lemma =>
          by_cases h1 : row < (R : Int)
          · by_cases h2 : col ≥ 0
            · have hc := hasI wi p b R C cb m cc ws g row col WK.out.1 (HB.out ⟨h1, h2⟩).1
              by_cases hg : 0 ≤ g (ix C (row, col))
              · rw [decide_eq_true hg] at hc
                have KK := Lib.hid (decide_eq_false (p := (row < (R : Int)) ∧ (col ≥ 0) ∧ ¬ 0 ≤ g (ix C (row, col))) (fun h => h.2.2 hg))
                clear hg
                go_wp2_with fail
                refine hc.mono ?_
                rintro e w2 ⟨rfl, nq, rfl⟩
                clear hc
                go_wp2
                go_meet
                exact ⟨nq, congrArg Value.bool (by rw [KK.out]), rfl⟩
              · rw [decide_eq_false hg] at hc
                have KK := Lib.hid (decide_eq_true (p := (row < (R : Int)) ∧ (col ≥ 0) ∧ ¬ 0 ≤ g (ix C (row, col))) ⟨h1, h2, hg⟩)
                clear hg
                go_wp2_with fail
                refine hc.mono ?_
                rintro e w2 ⟨rfl, nq, rfl⟩
                clear hc
                go_wp2
                go_meet
                exact ⟨nq, congrArg Value.bool (by rw [KK.out]), rfl⟩
            · have KK := Lib.hid (decide_eq_false (p := (row < (R : Int)) ∧ (col ≥ 0) ∧ ¬ 0 ≤ g (ix C (row, col))) (fun h => h2 h.2.1))
              go_wp2
              go_meet
              exact ⟨0, congrArg Value.bool (by rw [KK.out]), rfl⟩
          · have KK := Lib.hid (decide_eq_false (p := (row < (R : Int)) ∧ (col ≥ 0) ∧ ¬ 0 ≤ g (ix C (row, col))) (fun h => h1 h.1))
            go_wp2
            go_meet
            exact ⟨0, congrArg Value.bool (by rw [KK.out]), rfl⟩
      obtain ⟨nq, hc, hw⟩ := hcut
      subst hc
      rw [hw]; clear hw wc d1 d2
      have WK1 := Lib.hid (WK.out.dn nq); clear WK
      generalize wi.drewN nq = wi1 at WK1 ⊢
      go_upto_if 108 with fail
      go_cut [2] from 108 to 115 (fun s2 wx => ∃ (V2 k2 : Nat) (g2 : Nat → Int), Eat R C m1 4 ⟨row, col, V2⟩ k2 g2 ∧ s2 = .int .i64 k2 ∧ Wk w wx p b R C cb m cc ws g2)
      case first =>
        as_aux_lemma =>
          by_cases hA : (row < (R : Int)) ∧ (col ≥ 0) ∧ ¬ 0 ≤ g (ix C (row, col))
          · rw [decide_eq_true hA]
            obtain ⟨⟨V2, hE⟩, hin, hkl⟩ := (HB.out ⟨hA.1, hA.2.1⟩).2.2 hA.2.2
            have hkm2 : k < m := by have := HLEN.out; omega
            have HE := Lib.hid hE
            clear hE hA
            go_wp2_with fail
            refine (utahE wi1 p b R C cb m cc ws g row col k WK1.out.1 (by omega) (by omega) hin hkm2 hm).mono ?_
            intro e w2 hmd
            obtain ⟨rfl, hwk2⟩ := WK1.out.put hmd
            clear hmd
            have WK2 := Lib.hid hwk2; clear hwk2
            go_wp2
            go_meet
            exact ⟨V2, k + 1, _, HE.out, by go_num, WK2.out⟩
          · rw [decide_eq_false hA]
            have hE : Eat R C m1 4 ⟨row, col, V⟩ k g := by
              by_cases h1 : (row < (R : Int)) ∧ (col ≥ 0)
              · exact (HB.out h1).2.1 (Classical.not_not.1 fun h3 => hA ⟨h1.1, h1.2, h3⟩)
              · exact HA.out h1
            have HE := Lib.hid hE
            clear hE hA
            go_wp2
            go_meet
            exact ⟨V, k, g, HE.out, rfl, WK1.out⟩
      clear HA HB WK1 hkm
      obtain ⟨V, k, g, hat, rfl, hwk⟩ := hcut
      obtain ⟨wi2, rfl⟩ : ∃ wi2 : World, wi2 = wc := ⟨_, rfl⟩
      have WK := Lib.hid hwk; clear hwk
      obtain ⟨m2, hm2, hx, hy⟩ := hat.step4
      simp only at hx hy
      have HX := Lib.hid hx; have HY := Lib.hid hy
      have HMM1 := Lib.hid hm2
      clear hx hy hat hm2
      have d1 : wi2.cell? ⟨p, 1, none⟩ = some (.int .i64 R) := WK.out.1.box.cell (i := 1) (by omega)
      have d2 : wi2.cell? ⟨p, 2, none⟩ = some (.int .i64 C) := WK.out.1.box.cell (i := 2) (by omega)
      go_upto_region 20 with fail
      go_cut [129] from 120 to 129 (fun c wx => c = .bool (decide ((row - 2 < 0) ∨ (col + 2 ≥ (C : Int)))) ∧ wx = wi2)
      case first =>
        as_aux_lemma =>
          by_cases h1 : row - 2 < 0
          · have KK := Lib.hid (decide_eq_true (p := (row - 2 < 0) ∨ (col + 2 ≥ (C : Int))) (.inl h1))
            go_wp2
            go_meet
            exact ⟨congrArg Value.bool (by rw [KK.out]), rfl⟩
          · by_cases h2 : col + 2 ≥ (C : Int)
            · have KK := Lib.hid (decide_eq_true (p := (row - 2 < 0) ∨ (col + 2 ≥ (C : Int))) (.inr h2))
              go_wp2
              go_meet
              exact ⟨congrArg Value.bool (by rw [KK.out]; try simp; try omega), rfl⟩
            · have KK := Lib.hid (decide_eq_false (p := (row - 2 < 0) ∨ (col + 2 ≥ (C : Int))) (fun h => h.elim h1 h2))
              go_wp2
              go_meet
              exact ⟨congrArg Value.bool (by rw [KK.out]; try simp; try omega), rfl⟩
      obtain ⟨hc, hw⟩ := hcut
      subst hc
      rw [hw]; clear hw wc d1 d2
      by_cases hA : (row - 2 < 0) ∨ (col + 2 ≥ (C : Int))
      · rw [decide_eq_true hA]
        have HE := Lib.hid (HX.out hA)
        clear HX HY hA
        obtain ⟨m2u, rfl⟩ : ∃ x, x = m2 := ⟨_, rfl⟩
        go_wp2_with fail
        go_loopg [2, 3, 4] m2u (fun n s2 s3 s4 wr => ∃ (row col : Int) (V k : Nat) (g : Nat → Int), n ≤ m2u ∧ Eat R C n 2 ⟨row, col, V⟩ k g ∧ s2 = .int .i64 k ∧ s3 = .int .i64 row ∧ s4 = .int .i64 col ∧ Wk w wr p b R C cb m cc ws g)
        case atStart => exact ⟨row - 1, col + 5, V, k, g, Nat.le_refl _, HE.out, rfl, by go_num, by go_num, WK.out⟩
        case round =>
          clear HE WK hbd
          obtain ⟨row, col, V, k, g, hn2, hat, rfl, rfl, rfl, hwk⟩ := hrel
          obtain ⟨gU2, rfl⟩ : ∃ g, g = gk := ⟨_, rfl⟩
          obtain ⟨wi, rfl⟩ : ∃ wi : World, wi = wr := ⟨_, rfl⟩
          have hbd := hat.bnd
          simp only at hbd
          have hkm : k ≤ 5000 := by have := HLEN.out; have := hat.le; omega
          obtain ⟨m1, hm1, ha, hb⟩ := hat.down
          simp only at ha hb
          have HA := Lib.hid ha; have HB := Lib.hid hb
          have HM2 := Lib.hid hm1
          have HN2 := Lib.hid hn2
          clear ha hb hat hm1 hn2
          have WK := Lib.hid hwk; clear hwk
          have d1 : wi.cell? ⟨p, 1, none⟩ = some (.int .i64 R) := WK.out.1.box.cell (i := 1) (by omega)
          have d2 : wi.cell? ⟨p, 2, none⟩ = some (.int .i64 C) := WK.out.1.box.cell (i := 2) (by omega)
          go_upto_region 23 with fail
          go_cut [150] from 134 to 150 (fun c wx => ∃ nq, c = .bool (decide ((row ≥ 0) ∧ (col < (C : Int)) ∧ ¬ 0 ≤ g (ix C (row, col)))) ∧ wx = wi.drewN nq)
          case first =>
            as_aux_lemma =>
              by_cases h1 : row ≥ 0
              · by_cases h2 : col < (C : Int)
                · have hc := hasI wi p b R C cb m cc ws g row col WK.out.1 (HB.out ⟨h1, h2⟩).1
                  by_cases hg : 0 ≤ g (ix C (row, col))
                  · rw [decide_eq_true hg] at hc
                    have KK := Lib.hid (decide_eq_false (p := (row ≥ 0) ∧ (col < (C : Int)) ∧ ¬ 0 ≤ g (ix C (row, col))) (fun h => h.2.2 hg))
                    clear hg
                    go_wp2_with fail
                    refine hc.mono ?_
                    rintro e w2 ⟨rfl, nq, rfl⟩
                    clear hc
                    go_wp2
                    go_meet
                    exact ⟨nq, congrArg Value.bool (by rw [KK.out]), rfl⟩
                  · rw [decide_eq_false hg] at hc
                    have KK := Lib.hid (decide_eq_true (p := (row ≥ 0) ∧ (col < (C : Int)) ∧ ¬ 0 ≤ g (ix C (row, col))) ⟨h1, h2, hg⟩)
                    clear hg
                    go_wp2_with fail
                    refine hc.mono ?_
                    rintro e w2 ⟨rfl, nq, rfl⟩
                    clear hc
                    go_wp2
                    go_meet
                    exact ⟨nq, congrArg Value.bool (by rw [KK.out]), rfl⟩
                · have KK := Lib.hid (decide_eq_false (p := (row ≥ 0) ∧ (col < (C : Int)) ∧ ¬ 0 ≤ g (ix C (row, col))) (fun h => h2 h.2.1))
                  go_wp2
                  go_meet
                  exact ⟨0, congrArg Value.bool (by rw [KK.out]), rfl⟩
              · have KK := Lib.hid (decide_eq_false (p := (row ≥ 0) ∧ (col < (C : Int)) ∧ ¬ 0 ≤ g (ix C (row, col))) (fun h => h1 h.1))
                go_wp2
                go_meet
                exact ⟨0, congrArg Value.bool (by rw [KK.out]), rfl⟩
          obtain ⟨nq, hc, hw⟩ := hcut
          subst hc
          rw [hw]; clear hw wc d1 d2
          have WK1 := Lib.hid (WK.out.dn nq); clear WK
          generalize wi.drewN nq = wi1 at WK1 ⊢
          go_upto_if 150 with fail
          go_cut [2] from 150 to 157 (fun s2 wx => ∃ (V2 k2 : Nat) (g2 : Nat → Int), Eat R C m1 5 ⟨row, col, V2⟩ k2 g2 ∧ s2 = .int .i64 k2 ∧ Wk w wx p b R C cb m cc ws g2)
          case first =>
            as_aux_lemma =>
              by_cases hA : (row ≥ 0) ∧ (col < (C : Int)) ∧ ¬ 0 ≤ g (ix C (row, col))
              · rw [decide_eq_true hA]
                obtain ⟨⟨V2, hE⟩, hin, hkl⟩ := (HB.out ⟨hA.1, hA.2.1⟩).2.2 hA.2.2
                have hkm2 : k < m := by have := HLEN.out; omega
                have HE := Lib.hid hE
                clear hE hA
                go_wp2_with fail
                refine (utahE wi1 p b R C cb m cc ws g row col k WK1.out.1 (by omega) (by omega) hin hkm2 hm).mono ?_
                intro e w2 hmd
                obtain ⟨rfl, hwk2⟩ := WK1.out.put hmd
                clear hmd
                have WK2 := Lib.hid hwk2; clear hwk2
                go_wp2
                go_meet
                exact ⟨V2, k + 1, _, HE.out, by go_num, WK2.out⟩
              · rw [decide_eq_false hA]
                have hE : Eat R C m1 5 ⟨row, col, V⟩ k g := by
                  by_cases h1 : (row ≥ 0) ∧ (col < (C : Int))
                  · exact (HB.out h1).2.1 (Classical.not_not.1 fun h3 => hA ⟨h1.1, h1.2, h3⟩)
                  · exact HA.out h1
                have HE := Lib.hid hE
                clear hE hA
                go_wp2
                go_meet
                exact ⟨V, k, g, HE.out, rfl, WK1.out⟩
          clear HA HB WK1 hkm
          obtain ⟨V, k, g, hat, rfl, hwk⟩ := hcut
          obtain ⟨wi2, rfl⟩ : ∃ wi2 : World, wi2 = wc := ⟨_, rfl⟩
          have WK := Lib.hid hwk; clear hwk
          obtain ⟨m2, hm2, hx, hy⟩ := hat.step5
          simp only at hx hy
          have HX := Lib.hid hx; have HY := Lib.hid hy
          have HMM2 := Lib.hid hm2
          clear hx hy hat hm2
          have d1 : wi2.cell? ⟨p, 1, none⟩ = some (.int .i64 R) := WK.out.1.box.cell (i := 1) (by omega)
          have d2 : wi2.cell? ⟨p, 2, none⟩ = some (.int .i64 C) := WK.out.1.box.cell (i := 2) (by omega)
          go_upto_region 28 with fail
          go_cut [171] from 162 to 171 (fun c wx => c = .bool (decide ((row + 2 ≥ (R : Int)) ∨ (col - 2 < 0))) ∧ wx = wi2)
          case first =>
            as_aux_lemma =>
              by_cases h1 : row + 2 ≥ (R : Int)
              · have KK := Lib.hid (decide_eq_true (p := (row + 2 ≥ (R : Int)) ∨ (col - 2 < 0)) (.inl h1))
                go_wp2
                go_meet
                exact ⟨congrArg Value.bool (by rw [KK.out]), rfl⟩
              · by_cases h2 : col - 2 < 0
                · have KK := Lib.hid (decide_eq_true (p := (row + 2 ≥ (R : Int)) ∨ (col - 2 < 0)) (.inr h2))
                  go_wp2
                  go_meet
                  exact ⟨congrArg Value.bool (by rw [KK.out]; try simp; try omega), rfl⟩
                · have KK := Lib.hid (decide_eq_false (p := (row + 2 ≥ (R : Int)) ∨ (col - 2 < 0)) (fun h => h.elim h1 h2))
                  go_wp2
                  go_meet
                  exact ⟨congrArg Value.bool (by rw [KK.out]; try simp; try omega), rfl⟩
          obtain ⟨hc, hw⟩ := hcut
          subst hc
          rw [hw]; clear hw wc d1 d2
          by_cases hA : (row + 2 ≥ (R : Int)) ∨ (col - 2 < 0)
          · rw [decide_eq_true hA]
            have HE := Lib.hid (HX.out hA)
            clear HX HY hA
            obtain ⟨m3, hm3, hx, hy⟩ := HE.out.step3
            simp only at hx hy
            have HX := Lib.hid hx; have HY := Lib.hid hy
            have HM3 := Lib.hid hm3
            clear hx hy hm3 HE
            have d1 : wi2.cell? ⟨p, 1, none⟩ = some (.int .i64 R) := WK.out.1.box.cell (i := 1) (by omega)
            have d2 : wi2.cell? ⟨p, 2, none⟩ = some (.int .i64 C) := WK.out.1.box.cell (i := 2) (by omega)
            go_upto_region 31 with fail
            go_cut [189] from 176 to 189 (fun c wx => c = .bool (decide (row + 5 ≥ (R : Int) ∧ col - 1 ≥ (C : Int))) ∧ wx = wi2)
            case first =>
              as_aux_lemma =>
                by_cases h1 : row + 5 ≥ (R : Int)
                · by_cases h2 : col - 1 ≥ (C : Int)
                  · have KK := Lib.hid (decide_eq_true (p := row + 5 ≥ (R : Int) ∧ col - 1 ≥ (C : Int)) ⟨h1, h2⟩)
                    go_wp2
                    go_meet
                    exact ⟨congrArg Value.bool (by rw [KK.out]; try simp; try omega), rfl⟩
                  · have KK := Lib.hid (decide_eq_false (p := row + 5 ≥ (R : Int) ∧ col - 1 ≥ (C : Int)) (fun h => h2 h.2))
                    go_wp2
                    go_meet
                    exact ⟨congrArg Value.bool (by rw [KK.out]; try simp; try omega), rfl⟩
                · have KK := Lib.hid (decide_eq_false (p := row + 5 ≥ (R : Int) ∧ col - 1 ≥ (C : Int)) (fun h => h1 h.1))
                  go_wp2
                  go_meet
                  exact ⟨congrArg Value.bool (by rw [KK.out]; try simp; try omega), rfl⟩
            obtain ⟨hc, hw⟩ := hcut
            subst hc
            rw [hw]; clear hw wc
            by_cases hA : row + 5 ≥ (R : Int) ∧ col - 1 ≥ (C : Int)
            · rw [decide_eq_true hA]
              have LD := Lib.hid (HX.out hA)
              clear HX HY hA
              have hin : inR R C ((R : Int) - 1, (C : Int) - 1) = true := by unfold inR; exact decide_eq_true (by simp only []; omega)
              have hca := fun n => hasI (wi2.drewN n) p b R C cb m cc ws g ((R : Int) - 1) ((C : Int) - 1) (WK.out.1.dn n) hin
              by_cases hg : 0 ≤ g (ix C ((R : Int) - 1, (C : Int) - 1))
              · rw [decide_eq_true hg] at hca
                have HCA := Lib.hid hca
                have HG := Lib.hid hg
                clear hca hin hg
                go_wp2_with fail
                go_quiet ((go_at_call 147; exact Calls.quiet_of (HCA.out _)))
                go_wp2
                refine bodyPost_end (results_none rfl _ _ _) rfl ?_
                exact ⟨rfl, g, _, LD.out, by rw [if_pos HG.out]; exact WK.out.1.dn nq, WK.out.2.thenDn nq⟩
              · rw [decide_eq_false hg] at hca
                have HCA := Lib.hid hca
                have HG := Lib.hid hg
                clear hca hin hg
                go_wp2_with fail
                go_quiet ((go_at_call 147; exact Calls.quiet_of (HCA.out _)))
                have WK1 := Lib.hid (WK.out.dn nq)
                clear WK d1 d2
                generalize wi2.drewN nq = wf1 at WK1 ⊢
                have d1 : wf1.cell? ⟨p, 1, none⟩ = some (.int .i64 R) := WK1.out.1.box.cell (i := 1) (by omega)
                have d2 : wf1.cell? ⟨p, 2, none⟩ = some (.int .i64 C) := WK1.out.1.box.cell (i := 2) (by omega)
                go_wp2_with fail
                refine wp_region_quiet_tail 11 (by kernel_rfl) (by kernel_rfl) ?_
                simp only [List.take_succ_cons, List.take_zero, List.drop_succ_cons, List.drop_zero]
                repeat (first | go_big_quiet_step (fail) | quiet_step (fail))
                refine wpQuiet_nil ?_
                intro _ hw1q
                obtain ⟨nq, hw2q⟩ := hw1q
                subst hw2q
                have WK2 := Lib.hid (WK1.out.dn nq)
                clear WK1 d1 d2
                generalize wf1.drewN nq = wf2 at WK2 ⊢
                go_wp2_with fail
                refine (setI wf2 p b R C cb m cc (C - 1) (R - 1) ((C : Int) - 1) ((R : Int) - 1) ws _ WK2.out.1 (by omega) (by omega) (by omega) (by omega) true).mono ?_
                rintro e wf3 ⟨rfl, hp3, hb3, hz3⟩
                have P3 := Lib.hid hp3
                have B3 := Lib.hid (WK2.out.2.trans hb3)
                clear hp3 hb3 hz3 WK2
                have d1 : wf3.cell? ⟨p, 1, none⟩ = some (.int .i64 R) := P3.out.box.cell (i := 1) (by omega)
                have d2 : wf3.cell? ⟨p, 2, none⟩ = some (.int .i64 C) := P3.out.box.cell (i := 2) (by omega)
                go_wp2_with fail
                refine wp_region_quiet_tail 11 (by kernel_rfl) (by kernel_rfl) ?_
                simp only [List.take_succ_cons, List.take_zero, List.drop_succ_cons, List.drop_zero]
                repeat (first | go_big_quiet_step (fail) | quiet_step (fail))
                refine wpQuiet_nil ?_
                intro _ hw1q
                obtain ⟨nq, hw2q⟩ := hw1q
                subst hw2q
                have P4 := Lib.hid (P3.out.dn nq)
                have B4 := Lib.hid (B3.out.thenDn nq)
                clear P3 B3 d1 d2
                generalize wf3.drewN nq = wf4 at P4 B4 ⊢
                go_wp2_with fail
                refine (setI wf4 p b R C cb m cc (C - 2) (R - 2) ((C : Int) - 2) ((R : Int) - 2) ws _ P4.out (by omega) (by omega) (by omega) (by omega) true).mono ?_
                rintro e wf5 ⟨rfl, hp5, hb5, hz5⟩
                have P5 := Lib.hid hp5
                have B5 := Lib.hid (B4.out.trans hb5)
                clear hp5 hb5 hz5 P4 B4
                go_wp2
                refine bodyPost_end (results_none rfl _ _ _) rfl ?_
                exact ⟨rfl, g, _, LD.out, by rw [if_neg (show ¬ 0 ≤ g (ix C ((R : Int) - 1, (C : Int) - 1)) by have := HG.out; omega)]; exact P5.out, B5.out⟩
            · rw [decide_eq_false hA]
              have HE := Lib.hid (HY.out hA)
              clear HX HY hA d1 d2
              go_wp2
              go_roundg m3
              case rel => exact ⟨row + 5, col - 1, V, k, g, HE.out, rfl, by go_num, by go_num, WK.out⟩
              case measure => have := HM0.out; have := HM1.out; have := HMM1.out; have := HN1.out; have := HM2.out; have := HMM2.out; have := HN2.out; have := HM3.out; omega

          · rw [decide_eq_false hA]
            have HE := Lib.hid (HY.out hA)
            clear HX HY hA
            go_wp2
            go_roundg m2
            case rel => exact ⟨row + 2, col - 2, V, k, g, by have := HM2.out; have := HMM2.out; have := HN2.out; omega, HE.out, rfl, by go_num, by go_num, WK.out⟩
            case measure => have := HM2.out; have := HMM2.out; omega

      · rw [decide_eq_false hA]
        have HE := Lib.hid (HY.out hA)
        clear HX HY hA
        go_wp2
        go_roundg m2
        case rel => exact ⟨row - 2, col + 2, V, k, g, by have := HM1.out; have := HMM1.out; have := HN1.out; omega, HE.out, rfl, by go_num, by go_num, WK.out⟩
        case measure => have := HM1.out; have := HMM1.out; omega
end Go.Proofs.YtcnallabiffemaaGreatDoor
