import Derived.Test.YtcnallabiffemaaGreatDoorM06
import Derived.Test.YtcnallabiffemaaGreatDoorM23
import Derived.Test.YtcnallabiffemaaGreatDoorM24
import Derived.Test.YtcnallabiffemaaGreatDoorM25
import Derived.Test.YtcnallabiffemaaGreatDoorM26
import Derived.Test.YtcnallabiffemaaGreatDoorM27
/- Part of the proof that a Data Matrix symbol of a text, damaged at most to half of its check codewords in each block, is decoded to the text (FnDecode): texts S8 S9 T5 T6. -/
set_option linter.unusedVariables false
set_option linter.unusedSimpArgs false
namespace Go.Proofs.YtcnallabiffemaaGreatDoor
open Go.RowKit (wrap32 wrap64 intOf Hid Below)
open Zx

set_option maxRecDepth 100000 in
set_option maxHeartbeats 4000000 in
theorem x12C (w : World) (s bb n i base k : Nat) (d : Nat → Nat) (v : Value) (l out : List Nat) (hg : Gr w w.heap.size s bb n d base v w i 0 v l) (hin : i ≤ n) (hd : dTri 4 0 (ds d n i) = some (out, k)) :
    Calls Tryz.prog 100 #[pt s, v] w (SegTo w s bb n d base v (i + k) (l ++ out) (fun v' => .returned (.tuple #[v', .nilIface]))) := by
  have hn := hg.src.n1
  have HG := Lib.hid hg; clear hg
  have a0 : TriAt 4 d n i out k i 0 [] := ⟨out, k, Nat.le_refl _, hin, by decide, hd, rfl, by omega⟩
  have A0 := Lib.hid a0; clear a0 hd
  have hmk := run_make_row' (P := Tryz.prog) 22 3 (.int .i64 0) 8 Tryz.underlying22 info3 rfl .i64 .i64 3 (by omega) (by omega)
  rw [show ((3 : Nat) : Int) = 3 from rfl] at hmk
  have r0 := Lib.hid (World.rowIs_made w (.int .i64 0) 3 3)
  have g0 := Lib.hid (HG.out.alloc0 (.cells (madeCells #[.int .i64 0] 3) 3))
  go_enter Tryz.func100, Tryz.ntmps100
  go_wp2_with fail
  go_loopg [1] (n - i) (fun g v1 wr => ∃ (x : Value) (j z : Nat) (acc : List Nat), x = v1 ∧ TriAt 4 d n i out k j z acc ∧ g = n - j ∧ Gr w (w.heap.size + 1) s bb n d base v wr j 0 x (l ++ acc) ∧ ∃ f, wr.rowIs w.heap.size 3 3 f)
  case atStart => exact ⟨v, i, 0, [], rfl, A0.out, rfl, by rw [List.append_nil]; exact g0.out, _, r0.out⟩
  case round =>
    obtain ⟨v1, j, z, acc, rfl, ha, hgk, hg, f, hrow⟩ := hrel
    obtain ⟨gM, rfl⟩ : ∃ g, g = gk := ⟨_, rfl⟩
    have hjn := ha.le
    have HA := Lib.hid ha; clear ha
    have HGK := Lib.hid hgk; clear hgk
    have hlj := hg.len
    obtain ⟨L, hL⟩ : ∃ L, l ++ acc = L := ⟨_, rfl⟩
    rw [hL] at hg hlj
    have HL := Lib.hid hL; clear hL
    have G := Lib.hid hg; clear hg
    have HR := Lib.hid hrow; clear hrow
    clear hmk g0 r0
    by_cases hj : j < n
    · go_wp2_with fail
      refine (avail wr s bb n j 0 d G.out.src hjn.2.1 (by decide)).mono ?_
      rintro e w1 ⟨rfl, md, rfl⟩
      obtain ⟨w1, hw1⟩ : ∃ w1, w1 = wr.drewN md := ⟨_, rfl⟩
      rw [← hw1]
      have G1 : Hid (Gr w (w.heap.size + 1) s bb n d base v w1 j 0 v1 L) := Lib.hid (by rw [hw1]; exact G.out.dn md)
      have R1 : Hid (w1.rowIs w.heap.size 3 3 f) := Lib.hid (by rw [hw1]; exact HR.out)
      clear hw1 G HR
      go_wp2_with fail
      refine (avail w1 s bb n j 0 d G1.out.src hjn.2.1 (by decide)).mono ?_
      rintro e w2 ⟨rfl, md2, rfl⟩
      obtain ⟨w2, hw2⟩ : ∃ w2, w2 = w1.drewN md2 := ⟨_, rfl⟩
      rw [← hw2]
      have G2 : Hid (Gr w (w.heap.size + 1) s bb n d base v w2 j 0 v1 L) := Lib.hid (by rw [hw2]; exact G1.out.dn md2)
      have R2 : Hid (w2.rowIs w.heap.size 3 3 f) := Lib.hid (by rw [hw2]; exact R1.out)
      clear hw2 G1 R1
      by_cases hj1 : j + 1 = n
      · obtain ⟨rfl, hik⟩ := HA.out.end1 hj1
        have q8 : (8 * ((n : Int) - (j : Int)) - ((0 : Nat) : Int) == 8) = true := by simp; omega
        go_wp2
        go_returns
        refine ⟨_, rfl, ?_⟩
        rw [hik, HL.out]
        exact G2.out.weak
      · have q8 : (8 * ((n : Int) - (j : Int)) - ((0 : Nat) : Int) == 8) = false := by simp; omega
        have q9 : (8 * ((n : Int) - (j : Int)) == 8) = false := by simp; omega
        go_wp2_with fail
        refine (rb8 w2 s bb n j d G2.out.src hj).mono ?_
        rintro e w3 ⟨rfl, hs3, hb3, hz3⟩
        clear hz3 q8 q9
        have R3 := Lib.hid (hb3.row R2.out (show ¬ w.heap.size = s by have := G2.out.lts; omega))
        have G3 := Lib.hid (G2.out.read hs3 hb3 (Nat.le_succ j)); clear hs3 hb3 G2 R2
        have hda := G3.out.src.lt j hj
        obtain ⟨a, hda'⟩ : ∃ a, d j = a := ⟨_, rfl⟩
        rw [hda'] at hda ⊢
        have HDA := Lib.hid hda'; clear hda'
        by_cases c1 : a = 254
        · obtain ⟨rfl, hik⟩ := HA.out.stop (by omega) (by rw [HDA.out]; exact c1)
          have q1 : ((a : Int) == 254) = true := by simp; omega
          go_wp2
          go_returns
          refine ⟨_, rfl, ?_⟩
          rw [hik, HL.out]
          exact G3.out.weak
        · have q1 : ((a : Int) == 254) = false := by simp; omega
          go_wp2_with fail
          refine (rb8 w3 s bb n (j + 1) d G3.out.src (by omega)).mono ?_
          rintro e w4 ⟨rfl, hs4, hb4, hz4⟩
          clear hz4 q1
          have R4 := Lib.hid (hb4.row R3.out (show ¬ w.heap.size = s by have := G3.out.lts; omega))
          have G4 := Lib.hid (G3.out.read hs4 hb4 (Nat.le_succ (j + 1))); clear hs4 hb4 G3 R3
          have hdb := G4.out.src.lt (j + 1) (by omega)
          obtain ⟨hpos, o, sh', hva, htri⟩ := HA.out.step (by omega) (by rw [HDA.out]; exact c1)
          rw [HDA.out] at hpos hva
          obtain ⟨b, hdb'⟩ : ∃ b, d (j + 1) = b := ⟨_, rfl⟩
          rw [hdb'] at hdb hpos hva ⊢
          clear hdb'
          have HTRI := Lib.hid htri; clear htri
          obtain ⟨V, hV⟩ : ∃ V, [(256 * a + b - 1) / 1600, (256 * a + b - 1) % 1600 / 40, (256 * a + b - 1) % 40] = V := ⟨_, rfl⟩
          rw [hV] at hva
          have hVl : V.length = 3 := by rw [← hV]; rfl
          have HV := Lib.hid hV; clear hV
          have HVL := Lib.hid hVl; clear hVl
          have HVA := Lib.hid hva; clear hva
          go_wp2_with fail
          refine (p2b w4 a b w.heap.size f hda hdb hpos R4.out).mono ?_
          rintro e w5 ⟨rfl, hr5, hb5, hz5⟩
          clear hz5
          have R5 : Hid (w5.rowIs w.heap.size 3 3 (fun i => num (V.getD i 0))) := Lib.hid (hr5.congr fun i hi => by
            rw [← HV.out]
            match i, hi with
            | 0, _ => rfl
            | 1, _ => rfl
            | 2, _ => rfl)
          have G5 := Lib.hid (G4.out.side hb5 (Nat.le_refl _) (Nat.lt_succ_self _))
          clear hr5 hb5 R4 G4
          go_wp2_with fail
          go_loopg [1, 11] 3 (fun g v1 tt wr => ∃ (x : Value) (t z : Nat) (oc : List Nat), x = v1 ∧ ValAt 4 sh' o V t z oc ∧ g = 3 - t ∧ tt = .int .i64 t ∧ Gr w (w.heap.size + 1) s bb n d base v wr (j + 2) 0 x (L ++ oc) ∧ (L ++ oc).length ≤ 2 * j + t ∧ wr.rowIs w.heap.size 3 3 (fun i => num (V.getD i 0)))
          case atStart => exact ⟨v1, 0, z, [], rfl, HVA.out, rfl, rfl, by rw [List.append_nil]; exact G5.out, by rw [List.append_nil]; exact hlj, R5.out⟩
          case round =>
            clear G5 R5 HVA hlj
            clear v1
            obtain ⟨v1, t, zz, oc, rfl, hva, hgk2, rfl, hg, hlen, hrow⟩ := hrel
            obtain ⟨gK, rfl⟩ : ∃ g, g = gk := ⟨_, rfl⟩
            obtain ⟨w6, rfl⟩ : ∃ w6 : World, w6 = wr := ⟨_, rfl⟩
            have HGK2 := Lib.hid hgk2; clear hgk2
            have HVA := Lib.hid hva; clear hva
            have htz := HVA.out.le
            obtain ⟨M, hM⟩ : ∃ M, L ++ oc = M := ⟨_, rfl⟩
            rw [hM] at hg hlen
            have HM := Lib.hid hM; clear hM
            have G6 := Lib.hid hg; clear hg
            have R6 := Lib.hid hrow; clear hrow
            by_cases ht : t < 3
            · obtain ⟨cs, sh2', hts, hvn, _⟩ := HVA.out.step HVL.out ht
              have HVN := Lib.hid hvn; clear hvn HVA
              obtain ⟨hx40, rfl, rfl⟩ := tstep_x12 hts
              clear hts
              have hc0 := R6.out.cell ht
              obtain ⟨x, hx⟩ : ∃ x, V.getD t 0 = x := ⟨_, rfl⟩
              rw [hx] at hx40 hc0 HVN
              clear hx
              have hxc : x = 0 ∨ x = 1 ∨ x = 2 ∨ x = 3 ∨ (4 ≤ x ∧ x < 14) ∨ 14 ≤ x := by omega
              rcases hxc with rfl | rfl | rfl | rfl | ⟨hx1, hx2⟩ | hx1
              · --[A
                go_wp2_with (at_builtin; refine wpList_appV rfl (.tmp 71) (.tmp 72) 32 5 rfl Tryz.underlying32 (.int .u8 0) 1 infoB rfl (by decide) base v1 (M.map byt) rfl (G6.out.new _) ⟨w6.heap.size, 0, none⟩ 1 1 [_] rfl rfl (cell_one_new _ _ _) (one_u8 _) (by have := G6.out.room (by omega); omega) (G6.out.bs _) ?_)
                intro v' w9 H
                have G9 := Lib.hid (Gr.app1 (c := 13) G6.out H.out (by first | rfl | exact val_int (by omega)) (by omega))
                have R9 := Lib.hid (H.out.but.row (R6.out.alloc _) (G6.out.ownNe (Nat.le_refl _) (Nat.lt_succ_self _)))
                clear H G6 R6
                go_wp2
                go_roundg (3 - (t + 1))
                case rel => exact ⟨v', t + 1, 0, _, rfl, HVN.out, rfl, by go_num, by rw [← List.append_assoc, HM.out, show x12c 0 = 13 from rfl]; exact G9.out, by rw [← List.append_assoc, HM.out, List.length_append, List.length_singleton]; omega, R9.out⟩
                case measure => have := HGK2.out; omega
                --A]
              · --[B
                go_wp2_with (at_builtin; refine wpList_appV rfl (.tmp 76) (.tmp 77) 32 5 rfl Tryz.underlying32 (.int .u8 0) 1 infoB rfl (by decide) base v1 (M.map byt) rfl (G6.out.new _) ⟨w6.heap.size, 0, none⟩ 1 1 [_] rfl rfl (cell_one_new _ _ _) (one_u8 _) (by have := G6.out.room (by omega); omega) (G6.out.bs _) ?_)
                intro v' w9 H
                have G9 := Lib.hid (Gr.app1 (c := 42) G6.out H.out (by first | rfl | exact val_int (by omega)) (by omega))
                have R9 := Lib.hid (H.out.but.row (R6.out.alloc _) (G6.out.ownNe (Nat.le_refl _) (Nat.lt_succ_self _)))
                clear H G6 R6
                go_wp2
                go_roundg (3 - (t + 1))
                case rel => exact ⟨v', t + 1, 0, _, rfl, HVN.out, rfl, by go_num, by rw [← List.append_assoc, HM.out, show x12c 1 = 42 from rfl]; exact G9.out, by rw [← List.append_assoc, HM.out, List.length_append, List.length_singleton]; omega, R9.out⟩
                case measure => have := HGK2.out; omega
                --B]
              · --[C
                go_wp2_with (at_builtin; refine wpList_appV rfl (.tmp 81) (.tmp 82) 32 5 rfl Tryz.underlying32 (.int .u8 0) 1 infoB rfl (by decide) base v1 (M.map byt) rfl (G6.out.new _) ⟨w6.heap.size, 0, none⟩ 1 1 [_] rfl rfl (cell_one_new _ _ _) (one_u8 _) (by have := G6.out.room (by omega); omega) (G6.out.bs _) ?_)
                intro v' w9 H
                have G9 := Lib.hid (Gr.app1 (c := 62) G6.out H.out (by first | rfl | exact val_int (by omega)) (by omega))
                have R9 := Lib.hid (H.out.but.row (R6.out.alloc _) (G6.out.ownNe (Nat.le_refl _) (Nat.lt_succ_self _)))
                clear H G6 R6
                go_wp2
                go_roundg (3 - (t + 1))
                case rel => exact ⟨v', t + 1, 0, _, rfl, HVN.out, rfl, by go_num, by rw [← List.append_assoc, HM.out, show x12c 2 = 62 from rfl]; exact G9.out, by rw [← List.append_assoc, HM.out, List.length_append, List.length_singleton]; omega, R9.out⟩
                case measure => have := HGK2.out; omega
                --C]
              · --[D
                go_wp2_with (at_builtin; refine wpList_appV rfl (.tmp 86) (.tmp 87) 32 5 rfl Tryz.underlying32 (.int .u8 0) 1 infoB rfl (by decide) base v1 (M.map byt) rfl (G6.out.new _) ⟨w6.heap.size, 0, none⟩ 1 1 [_] rfl rfl (cell_one_new _ _ _) (one_u8 _) (by have := G6.out.room (by omega); omega) (G6.out.bs _) ?_)
                intro v' w9 H
                have G9 := Lib.hid (Gr.app1 (c := 32) G6.out H.out (by first | rfl | exact val_int (by omega)) (by omega))
                have R9 := Lib.hid (H.out.but.row (R6.out.alloc _) (G6.out.ownNe (Nat.le_refl _) (Nat.lt_succ_self _)))
                clear H G6 R6
                go_wp2
                go_roundg (3 - (t + 1))
                case rel => exact ⟨v', t + 1, 0, _, rfl, HVN.out, rfl, by go_num, by rw [← List.append_assoc, HM.out, show x12c 3 = 32 from rfl]; exact G9.out, by rw [← List.append_assoc, HM.out, List.length_append, List.length_singleton]; omega, R9.out⟩
                case measure => have := HGK2.out; omega
                --D]
              · --[E
                go_wp2_with (at_builtin; refine wpList_appV rfl (.tmp 49) (.tmp 53) 32 5 rfl Tryz.underlying32 (.int .u8 0) 1 infoB rfl (by decide) base v1 (M.map byt) rfl (G6.out.new _) ⟨w6.heap.size, 0, none⟩ 1 1 [_] rfl rfl (cell_one_new _ _ _) (one_u8 _) (by have := G6.out.room (by omega); omega) (G6.out.bs _) ?_)
                intro v' w9 H
                have G9 := Lib.hid (Gr.app1 (c := x + 44) G6.out H.out (by first | rfl | exact val_int (by omega)) (by omega))
                have R9 := Lib.hid (H.out.but.row (R6.out.alloc _) (G6.out.ownNe (Nat.le_refl _) (Nat.lt_succ_self _)))
                clear H G6 R6
                go_wp2
                go_roundg (3 - (t + 1))
                case rel => exact ⟨v', t + 1, 0, _, rfl, HVN.out, rfl, by go_num, by rw [← List.append_assoc, HM.out, show x12c x = x + 44 by unfold x12c; rw [if_neg (by omega), if_neg (by omega), if_neg (by omega), if_neg (by omega), if_pos (by omega)]]; exact G9.out, by rw [← List.append_assoc, HM.out, List.length_append, List.length_singleton]; omega, R9.out⟩
                case measure => have := HGK2.out; omega
                --E]
              · --[F
                go_wp2_with (at_builtin; refine wpList_appV rfl (.tmp 57) (.tmp 61) 32 5 rfl Tryz.underlying32 (.int .u8 0) 1 infoB rfl (by decide) base v1 (M.map byt) rfl (G6.out.new _) ⟨w6.heap.size, 0, none⟩ 1 1 [_] rfl rfl (cell_one_new _ _ _) (one_u8 _) (by have := G6.out.room (by omega); omega) (G6.out.bs _) ?_)
                intro v' w9 H
                have G9 := Lib.hid (Gr.app1 (c := x + 51) G6.out H.out (by first | rfl | exact val_int (by omega)) (by omega))
                have R9 := Lib.hid (H.out.but.row (R6.out.alloc _) (G6.out.ownNe (Nat.le_refl _) (Nat.lt_succ_self _)))
                clear H G6 R6
                go_wp2
                go_roundg (3 - (t + 1))
                case rel => exact ⟨v', t + 1, 0, _, rfl, HVN.out, rfl, by go_num, by rw [← List.append_assoc, HM.out, show x12c x = x + 51 by unfold x12c; rw [if_neg (by omega), if_neg (by omega), if_neg (by omega), if_neg (by omega), if_neg (by omega)]]; exact G9.out, by rw [← List.append_assoc, HM.out, List.length_append, List.length_singleton]; omega, R9.out⟩
                case measure => have := HGK2.out; omega
                --F]
            · obtain rfl : t = 3 := by omega
              obtain ⟨rfl, rfl, hz3⟩ := HVA.out.end_ HVL.out
              go_wp2
              go_roundg (n - (j + 2))
              case rel => exact ⟨v1, j + 2, _, acc ++ o, rfl, HTRI.out hz3, rfl, by rw [← List.append_assoc, HL.out, HM.out]; exact G6.out, _, R6.out⟩
              case measure => have := HGK.out; omega
    · obtain rfl : j = n := by omega
      obtain ⟨rfl, hik⟩ := HA.out.end_
      go_wp2_with fail
      refine (avail wr s bb j j 0 d G.out.src (Nat.le_refl _) (by decide)).mono ?_
      rintro e w1 ⟨rfl, md, rfl⟩
      go_wp2
      go_returns
      refine ⟨_, rfl, ?_⟩
      rw [hik, HL.out]
      exact (G.out.dn md).weak
end Go.Proofs.YtcnallabiffemaaGreatDoor
namespace Go.Proofs.YtcnallabiffemaaGreatDoor
open Go.RowKit (wrap32 wrap64 intOf Hid Below)
open Zx

theorem bitOff (w : World) (s bb n i o : Nat) (d : Nat → Nat) (h : Src w s bb n i o d) : Calls Tryz.prog 183 #[pt s] w fun e w' => e = .returned (.int .i64 o) ∧ w = w' := by
  have b2 : w.cell? ⟨s, 2, none⟩ = some (.int .i64 o) := h.box.cell (i := 2) (by omega)
  clear h
  go_enter Tryz.func183, Tryz.ntmps183
  go_wp2
  go_ret
  exact ⟨rfl, rfl⟩

/-- where a run of sextets stands -/
def EdiAt (d : Nat → Nat) (n i : Nat) (out : List Nat) (k j : Nat) (acc : List Nat) : Prop := ∃ out' k', i ≤ j ∧ j ≤ n ∧ dEdi (ds d n j) = some (out', k') ∧ out = acc ++ out' ∧ k = (j - i) + k'
theorem EdiAt.le {d : Nat → Nat} {n i k j : Nat} {out acc : List Nat} (h : EdiAt d n i out k j acc) : i ≤ j ∧ j ≤ n := by
  obtain ⟨_, _, h1, h2, _⟩ := h; exact ⟨h1, h2⟩
theorem some2' {a c : List Nat} {b e : Nat} (h : some (a, b) = some (c, e)) : a = c ∧ b = e := ⟨congrArg (fun x => x.1) (Option.some.inj h), congrArg (fun x => x.2) (Option.some.inj h)⟩
theorem EdiAt.end_ {d : Nat → Nat} {n i k j : Nat} {out acc : List Nat} (h : EdiAt d n i out k j acc) (hj : n ≤ j + 2) : out = acc ∧ i + k = j := by
  obtain ⟨out', k', h1, h2, h4, rfl, rfl⟩ := h
  have h5 : dEdi (ds d n j) = some ([], 0) := by
    match h6 : ds d n j with
    | [] => rfl
    | [_] => rfl
    | [_, _] => rfl
    | _ :: _ :: _ :: _ => have := congrArg List.length h6; rw [ds_len] at this; simp at this; omega
  obtain ⟨rfl, rfl⟩ := some2' (h5.symm.trans h4)
  exact ⟨by simp, by omega⟩

/-- the sextets of three bytes -/
def sx (d : Nat → Nat) (j t : Nat) : Nat := if t = 0 then d j / 4 else if t = 1 then d j % 4 * 16 + d (j + 1) / 16 else if t = 2 then d (j + 1) % 16 * 4 + d (j + 2) / 64 else d (j + 2) % 64
/-- the characters before a sextet -/
def sxs (d : Nat → Nat) (j : Nat) : Nat → List Nat
  | 0 => []
  | t + 1 => sxs d j t ++ [edc (sx d j t)]
theorem sxs_len (d : Nat → Nat) (j t : Nat) : (sxs d j t).length = t := by
  induction t with
  | zero => rfl
  | succ t ih => rw [sxs, List.length_append, ih]; rfl
theorem EdiAt.stop {d : Nat → Nat} {n i k j t : Nat} {out acc : List Nat} (h : EdiAt d n i out k j acc) (hj : j + 2 < n) (ht : t < 4) (hb : ∀ u, u < t → sx d j u ≠ 31) (hd : sx d j t = 31) :
    out = acc ++ sxs d j t ∧ i + k = j + (if t = 0 then 1 else if t = 1 then 2 else 3) := by
  obtain ⟨out', k', h1, h2, h4, rfl, rfl⟩ := h
  rw [ds_cons d n j (by omega), ds_cons d n (j + 1) (by omega), ds_cons d n (j + 2) (by omega), dEdi] at h4
  have h40 : t = 0 ∨ t = 1 ∨ t = 2 ∨ t = 3 := by omega
  rcases h40 with rfl | rfl | rfl | rfl
  · rw [if_pos (show d j / 4 = 31 from hd)] at h4
    obtain ⟨rfl, rfl⟩ := some2' h4
    exact ⟨rfl, by rw [if_pos rfl]; omega⟩
  · rw [if_neg (show ¬ d j / 4 = 31 from hb 0 (by decide)), if_pos (show d j % 4 * 16 + d (j + 1) / 16 = 31 from hd)] at h4
    obtain ⟨rfl, rfl⟩ := some2' h4
    exact ⟨rfl, by rw [if_neg (by decide), if_pos rfl]; omega⟩
  · rw [if_neg (show ¬ d j / 4 = 31 from hb 0 (by decide)), if_neg (show ¬ d j % 4 * 16 + d (j + 1) / 16 = 31 from hb 1 (by decide)), if_pos (show d (j + 1) % 16 * 4 + d (j + 2) / 64 = 31 from hd)] at h4
    obtain ⟨rfl, rfl⟩ := some2' h4
    exact ⟨rfl, by rw [if_neg (by decide), if_neg (by decide)]; omega⟩
  · rw [if_neg (show ¬ d j / 4 = 31 from hb 0 (by decide)), if_neg (show ¬ d j % 4 * 16 + d (j + 1) / 16 = 31 from hb 1 (by decide)), if_neg (show ¬ d (j + 1) % 16 * 4 + d (j + 2) / 64 = 31 from hb 2 (by decide)), if_pos (show d (j + 2) % 64 = 31 from hd)] at h4
    obtain ⟨rfl, rfl⟩ := some2' h4
    exact ⟨rfl, by rw [if_neg (by decide), if_neg (by decide)]; omega⟩
theorem EdiAt.step {d : Nat → Nat} {n i k j : Nat} {out acc : List Nat} (h : EdiAt d n i out k j acc) (hj : j + 2 < n) (hb : ∀ u, u < 4 → sx d j u ≠ 31) : EdiAt d n i out k (j + 3) (acc ++ sxs d j 4) := by
  obtain ⟨out', k', h1, h2, h4, rfl, rfl⟩ := h
  rw [ds_cons d n j (by omega), ds_cons d n (j + 1) (by omega), ds_cons d n (j + 2) (by omega), dEdi, if_neg (show ¬ d j / 4 = 31 from hb 0 (by decide)), if_neg (show ¬ d j % 4 * 16 + d (j + 1) / 16 = 31 from hb 1 (by decide)),
    if_neg (show ¬ d (j + 1) % 16 * 4 + d (j + 2) / 64 = 31 from hb 2 (by decide)), if_neg (show ¬ d (j + 2) % 64 = 31 from hb 3 (by decide))] at h4
  cases h6 : dEdi (ds d n (j + 2 + 1)) with
  | none => rw [h6] at h4; cases h4
  | some y =>
    rw [h6, Option.map_some] at h4
    obtain ⟨rfl, rfl⟩ := some2' h4
    exact ⟨y.1, y.2, by omega, by omega, h6, by rw [List.append_assoc]; rfl, by omega⟩
theorem sx_lt (d : Nat → Nat) (j t : Nat) (h : ∀ u, u < 3 → d (j + u) < 256) : sx d j t < 64 := by
  have h0 := h 0 (by decide)
  have h1 := h 1 (by decide)
  have h2 := h 2 (by decide)
  rw [Nat.add_zero] at h0
  unfold sx
  repeat' split
  all_goals omega
theorem and32 : ∀ x, x < 64 → (x &&& 32 = if x < 32 then 0 else 32) ∧ x ||| 64 = x + 64 := by decide +kernel

/-- the place of a sextet: the byte, the bit -/
def sxp (t : Nat) : Nat × Nat := if t = 0 then (0, 0) else if t = 1 then (0, 6) else if t = 2 then (1, 4) else if t = 3 then (2, 2) else (3, 0)

theorem rdSx (w : World) (s bb n j t : Nat) (d : Nat → Nat) (h : Src w s bb n (j + (sxp t).1) (sxp t).2 d) (hj : j + 2 < n) (ht : t < 4) :
    Calls Tryz.prog 175 #[pt s, .int .i64 6] w (SrcTo w s bb n (j + (sxp (t + 1)).1) (sxp (t + 1)).2 d (sx d j t)) := by
  have h40 : t = 0 ∨ t = 1 ∨ t = 2 ∨ t = 3 := by omega
  rcases h40 with rfl | rfl | rfl | rfl
  · exact rb6a w s bb n j d h (by omega)
  · exact rb6b w s bb n j d h (by omega)
  · exact rb6c w s bb n (j + 1) d h (by omega)
  · exact rbLow2 w s bb n (j + 2) d h (by omega)

set_option maxRecDepth 100000 in
set_option maxHeartbeats 4000000 in
theorem ediC (w : World) (s bb n i base k : Nat) (d : Nat → Nat) (v : Value) (l out : List Nat) (hg : Gr w w.heap.size s bb n d base v w i 0 v l) (hin : i ≤ n) (hl1 : l.length + 1 ≤ 2 * i) (hd : dEdi (ds d n i) = some (out, k)) :
    Calls Tryz.prog 101 #[pt s, v] w (SegTo w s bb n d base v (i + k) (l ++ out) (fun v' => .returned v')) := by
  have hn := hg.src.n1
  have HG := Lib.hid hg; clear hg
  have a0 : EdiAt d n i out k i [] := ⟨out, k, Nat.le_refl _, hin, hd, rfl, by omega⟩
  have A0 := Lib.hid a0; clear a0 hd
  go_enter Tryz.func101, Tryz.ntmps101
  go_wp2_with fail
  go_loopg [1] (n - i) (fun g v1 wr => ∃ (x : Value) (j : Nat) (acc : List Nat), x = v1 ∧ EdiAt d n i out k j acc ∧ g = n - j ∧ Gr w w.heap.size s bb n d base v wr j 0 x (l ++ acc) ∧ (l ++ acc).length + 1 ≤ 2 * j)
  case atStart => exact ⟨v, i, [], rfl, A0.out, rfl, by rw [List.append_nil]; exact HG.out, by rw [List.append_nil]; exact hl1⟩
  case round =>
    obtain ⟨v1, j, acc, rfl, ha, hgk, hg, hlj⟩ := hrel
    obtain ⟨gM, rfl⟩ : ∃ g, g = gk := ⟨_, rfl⟩
    have hjn := ha.le
    have HA := Lib.hid ha; clear ha
    have HGK := Lib.hid hgk; clear hgk
    obtain ⟨L, hL⟩ : ∃ L, l ++ acc = L := ⟨_, rfl⟩
    rw [hL] at hg hlj
    have HL := Lib.hid hL; clear hL
    have G := Lib.hid hg; clear hg
    by_cases hj : j < n
    · go_wp2_with fail
      refine (avail wr s bb n j 0 d G.out.src hjn.2 (by decide)).mono ?_
      rintro e w1 ⟨rfl, md, rfl⟩
      obtain ⟨w1, hw1⟩ : ∃ w1, w1 = wr.drewN md := ⟨_, rfl⟩
      rw [← hw1]
      have G1 : Hid (Gr w w.heap.size s bb n d base v w1 j 0 v1 L) := Lib.hid (by rw [hw1]; exact G.out.dn md)
      clear hw1 G
      go_wp2_with fail
      refine (avail w1 s bb n j 0 d G1.out.src hjn.2 (by decide)).mono ?_
      rintro e w2 ⟨rfl, md2, rfl⟩
      obtain ⟨w2, hw2⟩ : ∃ w2, w2 = w1.drewN md2 := ⟨_, rfl⟩
      rw [← hw2]
      have G2 : Hid (Gr w w.heap.size s bb n d base v w2 j 0 v1 L) := Lib.hid (by rw [hw2]; exact G1.out.dn md2)
      clear hw2 G1
      by_cases hj2 : n ≤ j + 2
      · obtain ⟨rfl, hik⟩ := HA.out.end_ hj2
        go_wp2
        go_returns
        refine ⟨_, rfl, ?_⟩
        rw [hik, HL.out]
        exact G2.out
      · go_wp2_with fail
        go_loopg [1, 5] 4 (fun g v1 tt wr => ∃ (x : Value) (t : Nat), x = v1 ∧ t ≤ 4 ∧ g = 4 - t ∧ tt = .int .i64 t ∧ (∀ u, u < t → sx d j u ≠ 31) ∧ Gr w w.heap.size s bb n d base v wr (j + (sxp t).1) (sxp t).2 x (L ++ sxs d j t) ∧ (L ++ sxs d j t).length + 1 ≤ 2 * j + t)
        case atStart => exact ⟨v1, 0, rfl, by decide, rfl, rfl, fun u hu => absurd hu (Nat.not_lt_zero u), by show Gr _ _ _ _ _ _ _ _ _ (j + 0) 0 _ (L ++ []); rw [List.append_nil]; exact G2.out, by show (L ++ []).length + 1 ≤ _; rw [List.append_nil]; exact hlj⟩
        case round =>
          clear G2 hlj
          clear v1
          obtain ⟨v1, t, rfl, ht4, hgk2, rfl, hno, hg, hlen⟩ := hrel
          obtain ⟨gK, rfl⟩ : ∃ g, g = gk := ⟨_, rfl⟩
          obtain ⟨w3, rfl⟩ : ∃ w3 : World, w3 = wr := ⟨_, rfl⟩
          have HGK2 := Lib.hid hgk2; clear hgk2
          have HNO := Lib.hid hno; clear hno
          obtain ⟨M, hM⟩ : ∃ M, L ++ sxs d j t = M := ⟨_, rfl⟩
          rw [hM] at hg hlen
          have HM := Lib.hid hM; clear hM
          have G3 := Lib.hid hg; clear hg
          by_cases ht : t < 4
          · go_wp2_with fail
            refine (rdSx w3 s bb n j t d G3.out.src (by omega) ht).mono ?_
            rintro e w4 ⟨rfl, hs4, hb4, hz4⟩
            clear hz4
            have hsl := sx_lt d j t (fun u hu => G3.out.src.lt _ (by omega))
            have hp1 : j + (sxp t).1 ≤ j + (sxp (t + 1)).1 := by
              have h40 : t = 0 ∨ t = 1 ∨ t = 2 ∨ t = 3 := by omega
              rcases h40 with rfl | rfl | rfl | rfl <;> simp [sxp]
            have G4 := Lib.hid (G3.out.read hs4 hb4 hp1); clear hs4 hb4 G3 hp1
            by_cases h31 : sx d j t = 31
            · obtain ⟨rfl, hik⟩ := HA.out.stop (by omega) ht HNO.out h31
              have h40 : t = 0 ∨ t = 1 ∨ t = 2 ∨ t = 3 := by omega
              rcases h40 with rfl | rfl | rfl | rfl
              · rw [h31]
                go_wp2_with fail
                refine (bitOff w4 s bb n j 6 d G4.out.src).mono ?_
                rintro e w' ⟨rfl, hw⟩
                obtain rfl := hw
                go_wp2_with fail
                refine (rbLow6 w4 s bb n j d G4.out.src (by omega)).mono ?_
                rintro e w5 ⟨rfl, hs5, hb5, hz5⟩
                clear hz5
                have G5 := Lib.hid (G4.out.read hs5 hb5 (Nat.le_succ _))
                clear hs5 hb5 G4
                go_wp2
                go_returns
                refine ⟨_, rfl, ?_⟩
                rw [hik, ← List.append_assoc, HL.out, HM.out]
                exact G5.out
              · rw [h31]
                go_wp2_with fail
                refine (bitOff w4 s bb n (j + 1) 4 d G4.out.src).mono ?_
                rintro e w' ⟨rfl, hw⟩
                obtain rfl := hw
                go_wp2_with fail
                refine (rbLow4 w4 s bb n (j + 1) d G4.out.src (by omega)).mono ?_
                rintro e w5 ⟨rfl, hs5, hb5, hz5⟩
                clear hz5
                have G5 := Lib.hid (G4.out.read hs5 hb5 (Nat.le_succ _))
                clear hs5 hb5 G4
                go_wp2
                go_returns
                refine ⟨_, rfl, ?_⟩
                rw [hik, ← List.append_assoc, HL.out, HM.out]
                exact G5.out
              · rw [h31]
                go_wp2_with fail
                refine (bitOff w4 s bb n (j + 2) 2 d G4.out.src).mono ?_
                rintro e w' ⟨rfl, hw⟩
                obtain rfl := hw
                go_wp2_with fail
                refine (rbLow2 w4 s bb n (j + 2) d G4.out.src (by omega)).mono ?_
                rintro e w5 ⟨rfl, hs5, hb5, hz5⟩
                clear hz5
                have G5 := Lib.hid (G4.out.read hs5 hb5 (Nat.le_succ _))
                clear hs5 hb5 G4
                go_wp2
                go_returns
                refine ⟨_, rfl, ?_⟩
                rw [hik, ← List.append_assoc, HL.out, HM.out]
                exact G5.out
              · rw [h31]
                go_wp2_with fail
                refine (bitOff w4 s bb n (j + 3) 0 d G4.out.src).mono ?_
                rintro e w' ⟨rfl, hw⟩
                obtain rfl := hw
                go_wp2
                go_returns
                refine ⟨_, rfl, ?_⟩
                rw [hik, ← List.append_assoc, HL.out, HM.out]
                exact G4.out
            · have q1 : ((sx d j t : Int) == 31) = false := by simp; omega
              have ha := and32 _ hsl
              obtain ⟨x, hx⟩ : ∃ x, sx d j t = x := ⟨_, rfl⟩
              rw [hx] at q1 ha hsl ⊢
              have hno2 : ∀ u, u < t + 1 → sx d j u ≠ 31 := fun u hu => by
                rcases Nat.lt_or_ge u t with h | h
                · exact HNO.out u h
                · obtain rfl : u = t := by omega
                  exact h31
              have HNO2 := Lib.hid hno2; clear hno2
              have hpt : 2 * j + t ≤ 2 * (j + (sxp (t + 1)).1) ∧ j + (sxp (t + 1)).1 ≤ 5001 := by
                have h40 : t = 0 ∨ t = 1 ∨ t = 2 ∨ t = 3 := by omega
                rcases h40 with rfl | rfl | rfl | rfl <;> simp [sxp] <;> omega
              have HX := Lib.hid hx; clear hx h31
              have a1 := and_i64 x 32 (by omega) (by decide)
              have a2 := or_i64 x 64 (by omega) (by decide)
              rw [ha.1, show ((32 : Nat) : Int) = 32 from rfl] at a1
              rw [ha.2, show ((64 : Nat) : Int) = 64 from rfl] at a2
              by_cases h32 : x < 32
              · have hed : edc x = x + 64 := by unfold edc; rw [if_pos h32]
                rw [if_pos h32] at a1
                have HED := Lib.hid hed; clear hed ha
                go_wp2_with (at_builtin; refine wpList_appV rfl (.tmp 41) (.tmp 44) 32 5 rfl Tryz.underlying32 (.int .u8 0) 1 infoB rfl (by decide) base v1 (M.map byt) rfl (G4.out.new _) ⟨w4.heap.size, 0, none⟩ 1 1 [_] rfl rfl (cell_one_new _ _ _) (one_u8 _) (by have := G4.out.room hpt.2; omega) (G4.out.bs _) ?_)
                intro v' w9 H
                have G9 := Lib.hid (Gr.app1 (c := x + 64) G4.out H.out (by first | rfl | exact val_int (by omega)) (by omega))
                clear H G4
                go_wp2
                go_roundg (4 - (t + 1))
                case rel => exact ⟨v', t + 1, rfl, ht, rfl, by go_num, HNO2.out, by rw [sxs, HX.out, HED.out, ← List.append_assoc, HM.out]; exact G9.out, by rw [sxs, ← List.append_assoc, HM.out, List.length_append, List.length_singleton]; omega⟩
                case measure => have := HGK2.out; omega
              · have hed : edc x = x := by unfold edc; rw [if_neg h32]
                rw [if_neg h32] at a1
                have HED := Lib.hid hed; clear hed ha a2
                go_wp2_with (at_builtin; refine wpList_appV rfl (.tmp 41) (.tmp 44) 32 5 rfl Tryz.underlying32 (.int .u8 0) 1 infoB rfl (by decide) base v1 (M.map byt) rfl (G4.out.new _) ⟨w4.heap.size, 0, none⟩ 1 1 [_] rfl rfl (cell_one_new _ _ _) (one_u8 _) (by have := G4.out.room hpt.2; omega) (G4.out.bs _) ?_)
                intro v' w9 H
                have G9 := Lib.hid (Gr.app1 (c := x) G4.out H.out (by first | rfl | exact val_int (by omega)) (by omega))
                clear H G4
                go_wp2
                go_roundg (4 - (t + 1))
                case rel => exact ⟨v', t + 1, rfl, ht, rfl, by go_num, HNO2.out, by rw [sxs, HX.out, HED.out, ← List.append_assoc, HM.out]; exact G9.out, by rw [sxs, ← List.append_assoc, HM.out, List.length_append, List.length_singleton]; omega⟩
                case measure => have := HGK2.out; omega
          · obtain rfl : t = 4 := by omega
            go_wp2
            go_roundg (n - (j + 3))
            case rel => exact ⟨v1, j + 3, acc ++ sxs d j 4, rfl, HA.out.step (by omega) HNO.out, rfl, by rw [← List.append_assoc, HL.out, HM.out]; exact G3.out, by rw [← List.append_assoc, HL.out, HM.out]; omega⟩
            case measure => have := HGK.out; omega
    · obtain rfl : j = n := by omega
      obtain ⟨rfl, hik⟩ := HA.out.end_ (by omega)
      go_wp2_with fail
      refine (avail wr s bb j j 0 d G.out.src (Nat.le_refl _) (by decide)).mono ?_
      rintro e w1 ⟨rfl, md, rfl⟩
      go_wp2
      go_returns
      refine ⟨_, rfl, ?_⟩
      rw [hik, HL.out]
      exact G.out.dn md
end Go.Proofs.YtcnallabiffemaaGreatDoor
namespace Go.Proofs.YtcnallabiffemaaGreatDoor
open Go.RowKit (wrap32 wrap64 intOf Hid Below)
open Zx

/-- behind a latch a run of ASCII is shorter than twice its codewords -/
theorem dAsc_len : ∀ (l : List Nat) (m : Nat) (out : List Nat) (k : Nat), dAsc l = some (m, out, k) → out.length ≤ 2 * k ∧ (m ≠ 1 → m ≠ 0 → out.length + 2 ≤ 2 * k) ∧ m ≤ 6
  | [], m, out, k, h => by
    have h7 := Option.some.inj h
    have h8 : 1 = m := congrArg (fun x => x.1) h7
    have h9 : [] = out := congrArg (fun x => x.2.1) h7
    subst h8 h9
    exact ⟨Nat.zero_le _, fun h => absurd rfl h, by decide⟩
  | b :: r, m, out, k, h => by
    have one : ∀ {m' : Nat} {o' : List Nat}, some (m', o', 1) = some (m, out, k) → o'.length ≤ 1 → m' ≤ 6 → (m' ≠ 1 → o' = []) → out.length ≤ 2 * k ∧ (m ≠ 1 → m ≠ 0 → out.length + 2 ≤ 2 * k) ∧ m ≤ 6 := by
      intro m' o' h h1 h3 h2
      have h7 := Option.some.inj h
      have h8 : m' = m := congrArg (fun x => x.1) h7
      have h9 : o' = out := congrArg (fun x => x.2.1) h7
      have h10 : 1 = k := congrArg (fun x => x.2.2) h7
      subst h8 h9 h10
      exact ⟨by omega, fun h4 _ => by rw [h2 h4]; decide, h3⟩
    rw [dAsc_cons] at h
    by_cases c0 : b = 0
    · rw [if_pos c0] at h; cases h
    rw [if_neg c0] at h
    by_cases c1 : b ≤ 128
    · rw [if_pos c1] at h; exact one h (by simp) (by decide) (fun h => absurd rfl h)
    rw [if_neg c1] at h
    by_cases c2 : b = 129
    · rw [if_pos c2] at h; exact one h (by simp) (by decide) (fun _ => rfl)
    rw [if_neg c2] at h
    by_cases c3 : b ≤ 229
    · rw [if_pos c3] at h
      cases h6 : dAsc r with
      | none => rw [h6] at h; cases h
      | some x =>
        have ih := dAsc_len r x.1 x.2.1 x.2.2 h6
        rw [h6] at h
        have h7 := Option.some.inj h
        have h8 : x.1 = m := congrArg (fun x => x.1) h7
        have h9 : _ = out := congrArg (fun x => x.2.1) h7
        have h10 : x.2.2 + 1 = k := congrArg (fun x => x.2.2) h7
        subst h8 h9 h10
        simp only [List.length_cons]
        exact ⟨by omega, fun a b => by have := ih.2.1 a b; omega, ih.2.2⟩
    rw [if_neg c3] at h
    by_cases c4 : b = 230
    · rw [if_pos c4] at h; exact one h (by simp) (by decide) (fun _ => rfl)
    rw [if_neg c4] at h
    by_cases c5 : b = 231
    · rw [if_pos c5] at h; exact one h (by simp) (by decide) (fun _ => rfl)
    rw [if_neg c5] at h
    by_cases c6 : b = 238
    · rw [if_pos c6] at h; exact one h (by simp) (by decide) (fun _ => rfl)
    rw [if_neg c6] at h
    by_cases c7 : b = 239
    · rw [if_pos c7] at h; exact one h (by simp) (by decide) (fun _ => rfl)
    rw [if_neg c7] at h
    by_cases c8 : b = 240
    · rw [if_pos c8] at h; exact one h (by simp) (by decide) (fun _ => rfl)
    rw [if_neg c8] at h; cases h

/-- the reading of all codewords, under way -/
structure Sx (w1 : World) (s bb n base mb : Nat) (d : Nat → Nat) (x0 y0 : Value) (wr : World) (j : Nat) (x y : Value) (acc : List Nat) : Prop where
  src : Src wr s bb n j 0 d
  own : OwnB wr base x acc
  segs : ∃ xs, OwnV wr 32 base y xs ∧ xs.length ≤ j
  ne : ∀ b, x.ownBlock = some b → y.ownBlock ≠ some b
  but : But (fun b => b = s ∨ x0.ownBlock = some b ∨ y0.ownBlock = some b) w1 wr
  atx : x.ownBlock = x0.ownBlock ∨ ∃ b, x.ownBlock = some b ∧ w1.heap.size ≤ b
  aty : y.ownBlock = y0.ownBlock ∨ ∃ b, y.ownBlock = some b ∧ w1.heap.size ≤ b
  len : acc.length ≤ 2 * j
  lts : s < base ∧ bb < base ∧ base ≤ w1.heap.size
  map : wr.heap[mb]? = some (.map #[] 0)

section
variable {w1 wr w' : World} {s bb n base mb j k : Nat} {d : Nat → Nat} {x0 y0 x y x' : Value} {acc o : List Nat}
theorem Sx.gr (h : Sx w1 s bb n base mb d x0 y0 wr j x y acc) : Gr wr wr.heap.size s bb n d base x wr j 0 x acc :=
  Gr.start h.src h.own ⟨h.lts.1, h.lts.2.1, Nat.le_trans h.lts.2.2 h.but.size⟩ h.len
theorem Sx.dn (h : Sx w1 s bb n base mb d x0 y0 wr j x y acc) (m : Nat) : Sx w1 s bb n base mb d x0 y0 (wr.drewN m) j x y acc :=
  ⟨⟨h.src.box, h.src.row, h.src.lt, h.src.n1, h.src.ne⟩, h.own, h.segs, h.ne, h.but.thenDn m, h.atx, h.aty, h.len, h.lts, h.map⟩
theorem Sx.ylt (h : Sx w1 s bb n base mb d x0 y0 wr j x y acc) {b : Nat} (hb : y.ownBlock = some b) : base ≤ b ∧ b < wr.heap.size := by
  obtain ⟨xs, h1, _⟩ := h.segs; exact h1.lt hb
/-- the map lies in a block of its own -/
theorem Sx.mne {z : Value} (hm : mb < w1.heap.size) (h0 : ∀ b, z.ownBlock = some b → b ≠ mb) {v : Value} (h : v.ownBlock = z.ownBlock ∨ ∃ b, v.ownBlock = some b ∧ w1.heap.size ≤ b) : ∀ b, v.ownBlock = some b → b ≠ mb := by
  intro b hb
  rcases h with h | ⟨c, h1, h2⟩
  · exact h0 b (h.symm.trans hb)
  · rw [h1] at hb; cases hb; omega
theorem Sx.seg (h : Sx w1 s bb n base mb d x0 y0 wr j x y acc) (hm : mb < w1.heap.size ∧ base ≤ mb) (hx0 : ∀ b, x0.ownBlock = some b → b ≠ mb) (g : Gr wr wr.heap.size s bb n d base x w' (j + k) 0 x' (acc ++ o)) :
    Sx w1 s bb n base mb d x0 y0 w' (j + k) x' y (acc ++ o) := by
  have sz := h.but.size
  refine ⟨g.src, g.own, ?_, fun b hb hy => ?_, ?_, ?_, h.aty, g.len, h.lts, ?_⟩
  · obtain ⟨xs, h1, h2⟩ := h.segs
    exact ⟨xs, g.vs h1 h.ne, by omega⟩
  · rcases g.at_ with h1 | ⟨c, h1, h2⟩
    · exact h.ne b (h1.symm.trans hb) hy
    · rw [h1] at hb; cases hb; have := (h.ylt hy).2; omega
  · refine h.but.trans' ?_ g.but
    intro b hb hs
    rcases hs with hs | hs
    · exact .inl hs
    · rcases h.atx with h1 | ⟨c, h1, h2⟩
      · exact .inr (.inl (h1.symm.trans hs))
      · rw [h1] at hs; cases hs; omega
  · rcases g.at_ with h1 | ⟨c, h1, h2⟩
    · rw [h1]; exact h.atx
    · exact .inr ⟨c, h1, by omega⟩
  · rw [g.but.block mb (by omega) (fun hs => ?_)]; exact h.map
    rcases hs with hs | hs
    · have := h.lts; omega
    · exact Sx.mne hm.1 hx0 h.atx mb hs rfl
end
end Go.Proofs.YtcnallabiffemaaGreatDoor
namespace Go.Proofs.YtcnallabiffemaaGreatDoor
open Go.RowKit (wrap32 wrap64 intOf Hid Below)
open Zx

theorem Sx.bas {w1 wr w' : World} {s bb n base mb j k lim : Nat} {d : Nat → Nat} {x0 y0 x y : Value} {acc o : List Nat} {e : Ending} (h : Sx w1 s bb n base mb d x0 y0 wr j x y acc) (hm : mb < w1.heap.size ∧ base ≤ mb)
    (hx0 : ∀ b, x0.ownBlock = some b → b ≠ mb) (hy0 : ∀ b, y0.ownBlock = some b → b ≠ mb) (g : BasTo wr s bb n lim d base x y (j + k) (acc ++ o) e w') (hl : lim ≤ j + k) (ho : (acc ++ o).length ≤ 2 * (j + k)) :
    ∃ x' y', e = .returned (.tuple #[x', y', .nilIface]) ∧ Sx w1 s bb n base mb d x0 y0 w' (j + k) x' y' (acc ++ o) := by
  obtain ⟨x', y', xs, rfl, g1, g2, g3, g4, g5, g6, g7, g8⟩ := g
  have sz := h.but.size
  refine ⟨x', y', rfl, g1, g2, ⟨xs, g3, by omega⟩, g4, ?_, ?_, ?_, ho, h.lts, ?_⟩
  · refine h.but.trans' ?_ g6
    intro b hb hs
    rcases hs with (hs | hs) | hs
    · exact .inl hs
    · rcases h.atx with h1 | ⟨c, h1, h2⟩
      · exact .inr (.inl (h1.symm.trans hs))
      · rw [h1] at hs; cases hs; omega
    · rcases h.aty with h1 | ⟨c, h1, h2⟩
      · exact .inr (.inr (h1.symm.trans hs))
      · rw [h1] at hs; cases hs; omega
  · rcases g7 with h1 | ⟨c, h1, h2⟩
    · rw [h1]; exact h.atx
    · exact .inr ⟨c, h1, by omega⟩
  · rcases g8 with h1 | ⟨c, h1, h2⟩
    · rw [h1]; exact h.aty
    · exact .inr ⟨c, h1, by omega⟩
  · rw [g6.block mb (by omega) (fun hs => ?_)]; exact h.map
    rcases hs with (hs | hs) | hs
    · have := h.lts; omega
    · exact Sx.mne hm.1 hx0 h.atx mb hs rfl
    · exact Sx.mne hm.1 hy0 h.aty mb hs rfl

/-- where the reading of all codewords stands -/
def DecAt (d : Nat → Nat) (n : Nat) (out : List Nat) (m j : Nat) (acc : List Nat) : Prop := j ≤ n ∧ m ≤ 6 ∧ (m ≠ 1 → m ≠ 0 → acc.length + 2 ≤ 2 * j) ∧ ∃ o, Dec m j (ds d n j) o ∧ out = acc ++ o
theorem DecAt.stop {d : Nat → Nat} {n j : Nat} {out acc : List Nat} {m : Nat} (h : DecAt d n out m j acc) (h1 : m = 0 ∨ j = n) : out = acc := by
  obtain ⟨_, _, _, o, h2, rfl⟩ := h
  rcases h1 with rfl | rfl
  · generalize ds d n j = L at h2
    cases h2 with
    | pda => simp
    | nil => simp
    | tri h => omega
  · rw [ds_nil d j j (Nat.le_refl _)] at h2
    cases h2 with
    | pda => simp
    | nil => simp
    | asc h => exact absurd rfl h
    | tri _ h => exact absurd rfl h
    | edi h => exact absurd rfl h
    | bas h => exact absurd rfl h
theorem dTri_k (m : Nat) : ∀ (sh : Nat) (l : List Nat) (o : List Nat) (k : Nat), dTri m sh l = some (o, k) → k ≤ l.length
  | _, [], o, k, h => by
    have h1 := congrArg (fun x => x.2) (Option.some.inj (show some (([] : List Nat), 0) = some (o, k) from h)); simp at h1; omega
  | _, [_], o, k, h => by
    have h1 := congrArg (fun x => x.2) (Option.some.inj (show some (([] : List Nat), 0) = some (o, k) from h)); simp at h1; omega
  | sh, a :: b :: r, o, k, h => by
    rw [dTri] at h
    by_cases c1 : a = 254
    · rw [if_pos c1] at h; have h1 := (some2 h).2; simp only [List.length_cons]; omega
    · rw [if_neg c1] at h
      by_cases c2 : 256 * a + b = 0
      · rw [if_pos c2] at h; cases h
      · rw [if_neg c2] at h
        cases h5 : tauto m sh [(256 * a + b - 1) / 1600, (256 * a + b - 1) % 1600 / 40, (256 * a + b - 1) % 40] with
        | none => rw [h5] at h; cases h
        | some x =>
          rw [h5, Option.bind_some] at h
          cases h6 : dTri m x.2 r with
          | none => rw [h6] at h; cases h
          | some y =>
            rw [h6, Option.map_some] at h
            have h1 := (some2 h).2
            have := dTri_k m x.2 r y.1 y.2 h6
            simp only [List.length_cons]; omega
theorem dAsc_k : ∀ (l : List Nat) (m : Nat) (o : List Nat) (k : Nat), dAsc l = some (m, o, k) → k ≤ l.length
  | [], m, o, k, h => by
    have h1 := congrArg (fun x => x.2.2) (Option.some.inj (show some (1, ([] : List Nat), 0) = some (m, o, k) from h)); simp at h1; omega
  | b :: r, m, o, k, h => by
    rw [dAsc_cons] at h
    have one : ∀ {m' : Nat} {o' : List Nat}, some (m', o', 1) = some (m, o, k) → k ≤ (b :: r).length := by
      intro m' o' h
      have h10 : 1 = k := congrArg (fun x => x.2.2) (Option.some.inj h)
      simp only [List.length_cons]; omega
    by_cases c0 : b = 0
    · rw [if_pos c0] at h; cases h
    rw [if_neg c0] at h
    by_cases c1 : b ≤ 128
    · rw [if_pos c1] at h; exact one h
    rw [if_neg c1] at h
    by_cases c2 : b = 129
    · rw [if_pos c2] at h; exact one h
    rw [if_neg c2] at h
    by_cases c3 : b ≤ 229
    · rw [if_pos c3] at h
      cases h6 : dAsc r with
      | none => rw [h6] at h; cases h
      | some x =>
        have ih := dAsc_k r x.1 x.2.1 x.2.2 h6
        rw [h6] at h
        have h10 : x.2.2 + 1 = k := congrArg (fun x => x.2.2) (Option.some.inj h)
        simp only [List.length_cons]; omega
    rw [if_neg c3] at h
    by_cases c4 : b = 230
    · rw [if_pos c4] at h; exact one h
    rw [if_neg c4] at h
    by_cases c5 : b = 231
    · rw [if_pos c5] at h; exact one h
    rw [if_neg c5] at h
    by_cases c6 : b = 238
    · rw [if_pos c6] at h; exact one h
    rw [if_neg c6] at h
    by_cases c7 : b = 239
    · rw [if_pos c7] at h; exact one h
    rw [if_neg c7] at h
    by_cases c8 : b = 240
    · rw [if_pos c8] at h; exact one h
    rw [if_neg c8] at h; cases h
theorem dEdi_k : ∀ (l : List Nat) (o : List Nat) (k : Nat), dEdi l = some (o, k) → k ≤ l.length
  | [], o, k, h => by
    have h1 := congrArg (fun x => x.2) (Option.some.inj (show some (([] : List Nat), 0) = some (o, k) from h)); simp at h1; omega
  | [_], o, k, h => by
    have h1 := congrArg (fun x => x.2) (Option.some.inj (show some (([] : List Nat), 0) = some (o, k) from h)); simp at h1; omega
  | [_, _], o, k, h => by
    have h1 := congrArg (fun x => x.2) (Option.some.inj (show some (([] : List Nat), 0) = some (o, k) from h)); simp at h1; omega
  | a :: b :: c :: r, o, k, h => by
    rw [dEdi] at h
    simp only [List.length_cons]
    by_cases c1 : a / 4 = 31
    · rw [if_pos c1] at h; have h1 := (some2 h).2; omega
    rw [if_neg c1] at h
    by_cases c2 : a % 4 * 16 + b / 16 = 31
    · rw [if_pos c2] at h; have h1 := (some2 h).2; omega
    rw [if_neg c2] at h
    by_cases c3 : b % 16 * 4 + c / 64 = 31
    · rw [if_pos c3] at h; have h1 := (some2 h).2; omega
    rw [if_neg c3] at h
    by_cases c4 : c % 64 = 31
    · rw [if_pos c4] at h; have h1 := (some2 h).2; omega
    rw [if_neg c4] at h
    cases h6 : dEdi r with
    | none => rw [h6] at h; cases h
    | some y =>
      rw [h6, Option.map_some] at h
      have h1 := (some2 h).2
      have := dEdi_k r y.1 y.2 h6
      omega

/-- the next run -/
theorem DecAt.next {d : Nat → Nat} {n j : Nat} {out acc : List Nat} {m : Nat} (h : DecAt d n out m j acc) (h0 : m ≠ 0) (hj : j < n) (hal : acc.length ≤ 2 * j) :
    (m = 1 ∧ ∃ m' o k, dAsc (ds d n j) = some (m', o, k) ∧ (0 < k → DecAt d n out m' (j + k) (acc ++ o)) ∧ 0 < k) ∨
    ((m = 2 ∨ m = 3 ∨ m = 4) ∧ ∃ o k, dTri m 0 (ds d n j) = some (o, k) ∧ DecAt d n out 1 (j + k) (acc ++ o)) ∨
    (m = 5 ∧ acc.length + 1 ≤ 2 * j ∧ ∃ o k, dEdi (ds d n j) = some (o, k) ∧ DecAt d n out 1 (j + k) (acc ++ o)) ∨
    (m = 6 ∧ ∃ o k, dBas j (ds d n j) = some (o, k) ∧ (∀ x ∈ o, x < 128) ∧ o ≠ [] ∧ (j + k ≤ n → DecAt d n out 1 (j + k) (acc ++ o))) := by
  obtain ⟨hjn, hm6, hlen, o, h2, rfl⟩ := h
  have hne : ds d n j ≠ [] := by rw [ds_cons d n j hj]; simp
  generalize hL : ds d n j = L at h2 hne
  cases h2 with
  | pda => exact absurd rfl h0
  | nil => exact absurd rfl hne
  | asc ha hb hc =>
    rename_i m' o' k' r'
    have hk := dAsc_k _ _ _ _ hb
    have hl := dAsc_len _ _ _ _ hb
    rw [← hL, ds_len] at hk
    rw [← hL, ds_drop] at hc
    have hk0 : 0 < k' := by
      rcases Nat.eq_zero_or_pos k' with h | h
      · subst h
        cases L with
        | nil => exact absurd rfl hne
        | cons b r =>
          exfalso
          have hl1 := hl.1
          have ho : o' = [] := List.eq_nil_of_length_eq_zero (by omega)
          rw [dAsc_cons] at hb
          by_cases c0 : b = 0
          · rw [if_pos c0] at hb; cases hb
          rw [if_neg c0] at hb
          have one : ∀ {m2 : Nat} {o2 : List Nat} {k2 : Nat}, some (m2, o2, k2 + 1) = some (m', o', 0) → False := by
            intro m2 o2 k2 h
            have h10 : k2 + 1 = 0 := congrArg (fun x => x.2.2) (Option.some.inj h)
            omega
          by_cases c1 : b ≤ 128
          · rw [if_pos c1] at hb; exact one hb
          rw [if_neg c1] at hb
          by_cases c2 : b = 129
          · rw [if_pos c2] at hb; exact one hb
          rw [if_neg c2] at hb
          by_cases c3 : b ≤ 229
          · rw [if_pos c3] at hb
            cases h6 : dAsc r with
            | none => rw [h6] at hb; cases hb
            | some x => rw [h6, Option.map_some] at hb; exact one hb
          rw [if_neg c3] at hb
          by_cases c4 : b = 230
          · rw [if_pos c4] at hb; exact one hb
          rw [if_neg c4] at hb
          by_cases c5 : b = 231
          · rw [if_pos c5] at hb; exact one hb
          rw [if_neg c5] at hb
          by_cases c6 : b = 238
          · rw [if_pos c6] at hb; exact one hb
          rw [if_neg c6] at hb
          by_cases c7 : b = 239
          · rw [if_pos c7] at hb; exact one hb
          rw [if_neg c7] at hb
          by_cases c8 : b = 240
          · rw [if_pos c8] at hb; exact one hb
          rw [if_neg c8] at hb; cases hb
      · exact h
    exact .inl ⟨rfl, m', o', k', hb, fun _ => ⟨by omega, hl.2.2, fun a b => by rw [List.length_append]; have := hl.2.1 a b; omega, r', hc, by simp⟩, hk0⟩
  | tri hm ha hb hc =>
    rename_i o' k' r'
    have hk := dTri_k _ _ _ _ _ hb
    rw [← hL, ds_len] at hk
    rw [← hL, ds_drop] at hc
    exact .inr (.inl ⟨hm, o', k', hb, by omega, by decide, fun a => absurd rfl a, r', hc, by simp⟩)
  | edi ha hb hc =>
    rename_i o' k' r'
    have hk := dEdi_k _ _ _ hb
    rw [← hL, ds_len] at hk
    rw [← hL, ds_drop] at hc
    exact .inr (.inr (.inl ⟨rfl, by have := hlen (by decide) (by decide); omega, o', k', hb, by omega, by decide, fun a => absurd rfl a, r', hc, by simp⟩))
  | bas ha hb h8 hne2 hc =>
    rename_i o' k' r'
    rw [← hL, ds_drop] at hc
    exact .inr (.inr (.inr ⟨rfl, o', k', hb, h8, hne2, fun hle => ⟨hle, by decide, fun a => absurd rfl a, r', hc, by simp⟩⟩))
end Go.Proofs.YtcnallabiffemaaGreatDoor
