import Derived.Test.YtcnallabiffemaaGreatDoorM25
/- Part of the proof that a Data Matrix symbol of a text, damaged at most to half of its check codewords in each block, is decoded to the text (FnDecode): texts S7. -/
set_option linter.unusedVariables false
set_option linter.unusedSimpArgs false
namespace Go.Proofs.YtcnallabiffemaaGreatDoor
open Go.RowKit (wrap32 wrap64 intOf Hid Below)
open Zx

set_option maxRecDepth 100000 in
set_option maxHeartbeats 4000000 in
theorem txtC (w : World) (s bb n i base k : Nat) (d : Nat → Nat) (v vm : Value) (l out : List Nat) (hg : Gr w w.heap.size s bb n d base v w i 0 v l) (hin : i ≤ n) (hd : dTri 3 0 (ds d n i) = some (out, k)) :
    Calls Tryz.prog 99 #[pt s, v, vm] w (SegTo w s bb n d base v (i + k) (l ++ out) (fun v' => .returned (.tuple #[v', .nilIface]))) := by
  have hn := hg.src.n1
  have HG := Lib.hid hg; clear hg
  have a0 : TriAt 3 d n i out k i 0 [] := ⟨out, k, Nat.le_refl _, hin, by decide, hd, rfl, by omega⟩
  have A0 := Lib.hid a0; clear a0 hd
  have hmk := run_make_row' (P := Tryz.prog) 22 3 (.int .i64 0) 8 Tryz.underlying22 info3 rfl .i64 .i64 3 (by omega) (by omega)
  rw [show ((3 : Nat) : Int) = 3 from rfl] at hmk
  have r0 := Lib.hid (World.rowIs_made w (.int .i64 0) 3 3)
  have g0 := Lib.hid (HG.out.alloc0 (.cells (madeCells #[.int .i64 0] 3) 3))
  go_enter Tryz.func99, Tryz.ntmps99
  go_wp2_with fail
  go_loopg [1, 8, 10] (n - i) (fun g v1 u sh wr => ∃ (x : Value) (j z : Nat) (acc : List Nat), x = v1 ∧ TriAt 3 d n i out k j z acc ∧ g = n - j ∧ u = .bool false ∧ sh = .int .i64 z ∧ Gr w (w.heap.size + 1) s bb n d base v wr j 0 x (l ++ acc) ∧ ∃ f, wr.rowIs w.heap.size 3 3 f)
  case atStart => exact ⟨v, i, 0, [], rfl, A0.out, rfl, rfl, rfl, by rw [List.append_nil]; exact g0.out, _, r0.out⟩
  case round =>
    obtain ⟨v1, j, z, acc, rfl, ha, hgk, rfl, rfl, hg, f, hrow⟩ := hrel
    obtain ⟨gM, rfl⟩ : ∃ g, g = gk := ⟨_, rfl⟩
    have hjn := ha.le
    have HA := Lib.hid ha; clear ha
    have HGK := Lib.hid hgk; clear hgk
    have hlj := hg.len
    obtain ⟨L, hL⟩ : ∃ L, l ++ acc = L := ⟨_, rfl⟩
    rw [hL] at hg hlj
    have HL := Lib.hid hL; clear hL
    have G := Lib.hid hg; clear hg
    have HR := Lib.hid hrow; clear hrow
    clear hmk g0 r0
    by_cases hj : j < n
    · go_wp2_with fail
      refine (avail wr s bb n j 0 d G.out.src hjn.2.1 (by decide)).mono ?_
      rintro e w1 ⟨rfl, md, rfl⟩
      obtain ⟨w1, hw1⟩ : ∃ w1, w1 = wr.drewN md := ⟨_, rfl⟩
      rw [← hw1]
      have G1 : Hid (Gr w (w.heap.size + 1) s bb n d base v w1 j 0 v1 L) := Lib.hid (by rw [hw1]; exact G.out.dn md)
      have R1 : Hid (w1.rowIs w.heap.size 3 3 f) := Lib.hid (by rw [hw1]; exact HR.out)
      clear hw1 G HR
      go_wp2_with fail
      refine (avail w1 s bb n j 0 d G1.out.src hjn.2.1 (by decide)).mono ?_
      rintro e w2 ⟨rfl, md2, rfl⟩
      obtain ⟨w2, hw2⟩ : ∃ w2, w2 = w1.drewN md2 := ⟨_, rfl⟩
      rw [← hw2]
      have G2 : Hid (Gr w (w.heap.size + 1) s bb n d base v w2 j 0 v1 L) := Lib.hid (by rw [hw2]; exact G1.out.dn md2)
      have R2 : Hid (w2.rowIs w.heap.size 3 3 f) := Lib.hid (by rw [hw2]; exact R1.out)
      clear hw2 G1 R1
      by_cases hj1 : j + 1 = n
      · obtain ⟨rfl, hik⟩ := HA.out.end1 hj1
        have q8 : (8 * ((n : Int) - (j : Int)) - ((0 : Nat) : Int) == 8) = true := by simp; omega
        go_wp2
        go_returns
        refine ⟨_, rfl, ?_⟩
        rw [hik, HL.out]
        exact G2.out.weak
      · have q8 : (8 * ((n : Int) - (j : Int)) - ((0 : Nat) : Int) == 8) = false := by simp; omega
        have q9 : (8 * ((n : Int) - (j : Int)) == 8) = false := by simp; omega
        go_wp2_with fail
        refine (rb8 w2 s bb n j d G2.out.src hj).mono ?_
        rintro e w3 ⟨rfl, hs3, hb3, hz3⟩
        clear hz3 q8 q9
        have R3 := Lib.hid (hb3.row R2.out (show ¬ w.heap.size = s by have := G2.out.lts; omega))
        have G3 := Lib.hid (G2.out.read hs3 hb3 (Nat.le_succ j)); clear hs3 hb3 G2 R2
        have hda := G3.out.src.lt j hj
        obtain ⟨a, hda'⟩ : ∃ a, d j = a := ⟨_, rfl⟩
        rw [hda'] at hda ⊢
        have HDA := Lib.hid hda'; clear hda'
        by_cases c1 : a = 254
        · obtain ⟨rfl, hik⟩ := HA.out.stop (by omega) (by rw [HDA.out]; exact c1)
          have q1 : ((a : Int) == 254) = true := by simp; omega
          go_wp2
          go_returns
          refine ⟨_, rfl, ?_⟩
          rw [hik, HL.out]
          exact G3.out.weak
        · have q1 : ((a : Int) == 254) = false := by simp; omega
          go_wp2_with fail
          refine (rb8 w3 s bb n (j + 1) d G3.out.src (by omega)).mono ?_
          rintro e w4 ⟨rfl, hs4, hb4, hz4⟩
          clear hz4 q1
          have R4 := Lib.hid (hb4.row R3.out (show ¬ w.heap.size = s by have := G3.out.lts; omega))
          have G4 := Lib.hid (G3.out.read hs4 hb4 (Nat.le_succ (j + 1))); clear hs4 hb4 G3 R3
          have hdb := G4.out.src.lt (j + 1) (by omega)
          obtain ⟨hpos, o, sh', hva, htri⟩ := HA.out.step (by omega) (by rw [HDA.out]; exact c1)
          rw [HDA.out] at hpos hva
          obtain ⟨b, hdb'⟩ : ∃ b, d (j + 1) = b := ⟨_, rfl⟩
          rw [hdb'] at hdb hpos hva ⊢
          clear hdb'
          have HTRI := Lib.hid htri; clear htri
          obtain ⟨V, hV⟩ : ∃ V, [(256 * a + b - 1) / 1600, (256 * a + b - 1) % 1600 / 40, (256 * a + b - 1) % 40] = V := ⟨_, rfl⟩
          rw [hV] at hva
          have hVl : V.length = 3 := by rw [← hV]; rfl
          have HV := Lib.hid hV; clear hV
          have HVL := Lib.hid hVl; clear hVl
          have HVA := Lib.hid hva; clear hva
          go_wp2_with fail
          refine (p2b w4 a b w.heap.size f hda hdb hpos R4.out).mono ?_
          rintro e w5 ⟨rfl, hr5, hb5, hz5⟩
          clear hz5
          have R5 : Hid (w5.rowIs w.heap.size 3 3 (fun i => num (V.getD i 0))) := Lib.hid (hr5.congr fun i hi => by
            rw [← HV.out]
            match i, hi with
            | 0, _ => rfl
            | 1, _ => rfl
            | 2, _ => rfl)
          have G5 := Lib.hid (G4.out.side hb5 (Nat.le_refl _) (Nat.lt_succ_self _))
          clear hr5 hb5 R4 G4
          go_wp2_with fail
          go_loopg [1, 8, 10, 15] 3 (fun g v1 u sh tt wr => ∃ (x : Value) (t z : Nat) (oc : List Nat), x = v1 ∧ ValAt 3 sh' o V t z oc ∧ g = 3 - t ∧ u = .bool false ∧ sh = .int .i64 z ∧ tt = .int .i64 t ∧ Gr w (w.heap.size + 1) s bb n d base v wr (j + 2) 0 x (L ++ oc) ∧ (L ++ oc).length ≤ 2 * j + t ∧ wr.rowIs w.heap.size 3 3 (fun i => num (V.getD i 0)))
          case atStart => exact ⟨v1, 0, z, [], rfl, HVA.out, rfl, rfl, rfl, rfl, by rw [List.append_nil]; exact G5.out, by rw [List.append_nil]; exact hlj, R5.out⟩
          case round =>
            clear G5 R5 HVA hlj
            clear v1
            obtain ⟨v1, t, zz, oc, rfl, hva, hgk2, rfl, rfl, rfl, hg, hlen, hrow⟩ := hrel
            obtain ⟨gK, rfl⟩ : ∃ g, g = gk := ⟨_, rfl⟩
            obtain ⟨w6, rfl⟩ : ∃ w6 : World, w6 = wr := ⟨_, rfl⟩
            have HGK2 := Lib.hid hgk2; clear hgk2
            have HVA := Lib.hid hva; clear hva
            have htz := HVA.out.le
            obtain ⟨M, hM⟩ : ∃ M, L ++ oc = M := ⟨_, rfl⟩
            rw [hM] at hg hlen
            have HM := Lib.hid hM; clear hM
            have G6 := Lib.hid hg; clear hg
            have R6 := Lib.hid hrow; clear hrow
            by_cases ht : t < 3
            · obtain ⟨cs, sh2', hts, hvn, _⟩ := HVA.out.step HVL.out ht
              have HVN := Lib.hid hvn; clear hvn HVA
              have hcs := tstep_cases (by decide) htz.2 hts
              clear hts
              have hc0 := R6.out.cell ht
              obtain ⟨x, hx⟩ : ∃ x, V.getD t 0 = x := ⟨_, rfl⟩
              rw [hx] at hcs hc0
              clear hx
              rcases hcs with ⟨rfl, hx1, rfl, rfl⟩ | ⟨rfl, hx1, hx2, rfl, rfl⟩ | ⟨rfl, hx1, rfl, rfl⟩ | ⟨rfl, hx1, rfl, rfl⟩ | ⟨rfl, hx1, rfl, rfl⟩
              · --[A
                go_wp2
                go_roundg (3 - (t + 1))
                case rel => exact ⟨v1, t + 1, x + 1, _, rfl, HVN.out, rfl, rfl, by go_num, by go_num, by rw [List.append_nil, HM.out]; exact G6.out, by rw [List.append_nil, HM.out]; omega, R6.out⟩
                case measure => have := HGK2.out; omega
                --A]
              · --[B
                go_wp2_with fail
                refine (tabT w6).mono ?_
                rintro e w7 ⟨rfl, hr7, hb7⟩
                have G7 := Lib.hid (G6.out.all hb7)
                have R7 := Lib.hid (rowIs_below R6.out hb7 R6.out.lt)
                clear hr7 hb7 G6 R6
                go_wp2_with fail
                refine (tabT w7).mono ?_
                rintro e w8 ⟨rfl, hr8, hb8⟩
                have hcc0 := hr8.cell (i := x) (by omega)
                have G8 := Lib.hid (G7.out.all hb8)
                have R8 := Lib.hid (rowIs_below R7.out hb8 R7.out.lt)
                clear hr8 hb8 G7 R7
                have hcc : w8.cell? ⟨w7.heap.size, x, none⟩ = some (byt (bas3 3 x)) := by rw [hcc0]; show some (byt (if x < 3 then 42 else bas3 3 x)) = _; rw [if_neg (by omega)]
                clear hcc0
                obtain ⟨y, hy⟩ : ∃ y, bas3 3 x = y := ⟨_, rfl⟩
                rw [hy] at hcc HVN
                clear hy
                go_wp2_with (at_builtin; refine wpList_appV rfl (.tmp 80) (.tmp 82) 32 5 rfl Tryz.underlying32 (.int .u8 0) 1 infoB rfl (by decide) base v1 (M.map byt) rfl (G8.out.new _) ⟨w8.heap.size, 0, none⟩ 1 1 [_] rfl rfl (cell_one_new _ _ _) (one_u8 _) (by have := G8.out.room (by omega); omega) (G8.out.bs _) ?_)
                intro v' w9 H
                have G9 := Lib.hid (Gr.app1 (c := y) G8.out H.out rfl (by omega))
                have R9 := Lib.hid (H.out.but.row (R8.out.alloc _) (G8.out.ownNe (Nat.le_refl _) (Nat.lt_succ_self _)))
                clear H G8 R8
                go_wp2
                go_roundg (3 - (t + 1))
                case rel => exact ⟨v', t + 1, 0, _, rfl, HVN.out, rfl, rfl, rfl, by go_num, by rw [← List.append_assoc, HM.out]; exact G9.out, by rw [← List.append_assoc, HM.out, List.length_append, List.length_singleton]; omega, R9.out⟩
                case measure => have := HGK2.out; omega
                --B]
              · --[C
                go_wp2_with (at_builtin; refine wpList_appV rfl (.tmp 99) (.tmp 102) 32 5 rfl Tryz.underlying32 (.int .u8 0) 1 infoB rfl (by decide) base v1 (M.map byt) rfl (G6.out.new _) ⟨w6.heap.size, 0, none⟩ 1 1 [_] rfl rfl (cell_one_new _ _ _) (one_u8 _) (by have := G6.out.room (by omega); omega) (G6.out.bs _) ?_)
                intro v' w9 H
                have G9 := Lib.hid (Gr.app1 (c := x) G6.out H.out rfl (by omega))
                have R9 := Lib.hid (H.out.but.row (R6.out.alloc _) (G6.out.ownNe (Nat.le_refl _) (Nat.lt_succ_self _)))
                clear H G6 R6
                go_wp2
                go_roundg (3 - (t + 1))
                case rel => exact ⟨v', t + 1, 0, _, rfl, HVN.out, rfl, rfl, rfl, by go_num, by rw [← List.append_assoc, HM.out]; exact G9.out, by rw [← List.append_assoc, HM.out, List.length_append, List.length_singleton]; omega, R9.out⟩
                case measure => have := HGK2.out; omega
                --C]
              · --[D
                go_wp2_with fail
                refine (tabS w6).mono ?_
                rintro e w7 ⟨rfl, hr7, hb7⟩
                have G7 := Lib.hid (G6.out.all hb7)
                have R7 := Lib.hid (rowIs_below R6.out hb7 R6.out.lt)
                clear hr7 hb7 G6 R6
                go_wp2_with fail
                refine (tabS w7).mono ?_
                rintro e w8 ⟨rfl, hr8, hb8⟩
                have hcc := hr8.cell (i := x) (by omega)
                have G8 := Lib.hid (G7.out.all hb8)
                have R8 := Lib.hid (rowIs_below R7.out hb8 R7.out.lt)
                clear hr8 hb8 G7 R7
                skip
                obtain ⟨y, hy⟩ : ∃ y, sh2 x = y := ⟨_, rfl⟩
                rw [hy] at hcc HVN
                clear hy
                go_wp2_with (at_builtin; refine wpList_appV rfl (.tmp 120) (.tmp 122) 32 5 rfl Tryz.underlying32 (.int .u8 0) 1 infoB rfl (by decide) base v1 (M.map byt) rfl (G8.out.new _) ⟨w8.heap.size, 0, none⟩ 1 1 [_] rfl rfl (cell_one_new _ _ _) (one_u8 _) (by have := G8.out.room (by omega); omega) (G8.out.bs _) ?_)
                intro v' w9 H
                have G9 := Lib.hid (Gr.app1 (c := y) G8.out H.out rfl (by omega))
                have R9 := Lib.hid (H.out.but.row (R8.out.alloc _) (G8.out.ownNe (Nat.le_refl _) (Nat.lt_succ_self _)))
                clear H G8 R8
                go_wp2
                go_roundg (3 - (t + 1))
                case rel => exact ⟨v', t + 1, 0, _, rfl, HVN.out, rfl, rfl, rfl, by go_num, by rw [← List.append_assoc, HM.out]; exact G9.out, by rw [← List.append_assoc, HM.out, List.length_append, List.length_singleton]; omega, R9.out⟩
                case measure => have := HGK2.out; omega
                --D]
              · --[E
                go_wp2_with fail
                refine (tabU w6).mono ?_
                rintro e w7 ⟨rfl, hr7, hb7⟩
                have G7 := Lib.hid (G6.out.all hb7)
                have R7 := Lib.hid (rowIs_below R6.out hb7 R6.out.lt)
                clear hr7 hb7 G6 R6
                go_wp2_with fail
                refine (tabU w7).mono ?_
                rintro e w8 ⟨rfl, hr8, hb8⟩
                have hcc := hr8.cell (i := x) (by omega)
                have G8 := Lib.hid (G7.out.all hb8)
                have R8 := Lib.hid (rowIs_below R7.out hb8 R7.out.lt)
                clear hr8 hb8 G7 R7
                skip
                obtain ⟨y, hy⟩ : ∃ y, sh3 3 x = y := ⟨_, rfl⟩
                rw [hy] at hcc HVN
                clear hy
                go_wp2_with (at_builtin; refine wpList_appV rfl (.tmp 158) (.tmp 160) 32 5 rfl Tryz.underlying32 (.int .u8 0) 1 infoB rfl (by decide) base v1 (M.map byt) rfl (G8.out.new _) ⟨w8.heap.size, 0, none⟩ 1 1 [_] rfl rfl (cell_one_new _ _ _) (one_u8 _) (by have := G8.out.room (by omega); omega) (G8.out.bs _) ?_)
                intro v' w9 H
                have G9 := Lib.hid (Gr.app1 (c := y) G8.out H.out rfl (by omega))
                have R9 := Lib.hid (H.out.but.row (R8.out.alloc _) (G8.out.ownNe (Nat.le_refl _) (Nat.lt_succ_self _)))
                clear H G8 R8
                go_wp2
                go_roundg (3 - (t + 1))
                case rel => exact ⟨v', t + 1, 0, _, rfl, HVN.out, rfl, rfl, rfl, by go_num, by rw [← List.append_assoc, HM.out]; exact G9.out, by rw [← List.append_assoc, HM.out, List.length_append, List.length_singleton]; omega, R9.out⟩
                case measure => have := HGK2.out; omega
                --E]
            · obtain rfl : t = 3 := by omega
              obtain ⟨rfl, rfl, hz3⟩ := HVA.out.end_ HVL.out
              go_wp2
              go_roundg (n - (j + 2))
              case rel => exact ⟨v1, j + 2, _, acc ++ o, rfl, HTRI.out hz3, rfl, rfl, rfl, by rw [← List.append_assoc, HL.out, HM.out]; exact G6.out, _, R6.out⟩
              case measure => have := HGK.out; omega
    · obtain rfl : j = n := by omega
      obtain ⟨rfl, hik⟩ := HA.out.end_
      go_wp2_with fail
      refine (avail wr s bb j j 0 d G.out.src (Nat.le_refl _) (by decide)).mono ?_
      rintro e w1 ⟨rfl, md, rfl⟩
      go_wp2
      go_returns
      refine ⟨_, rfl, ?_⟩
      rw [hik, HL.out]
      exact (G.out.dn md).weak
end Go.Proofs.YtcnallabiffemaaGreatDoor
