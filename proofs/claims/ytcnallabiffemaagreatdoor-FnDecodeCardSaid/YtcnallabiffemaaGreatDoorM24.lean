import Derived.Test.YtcnallabiffemaaGreatDoorM06
/- Part of the proof that a Data Matrix symbol of a text, damaged at most to half of its check codewords in each block, is decoded to the text (FnDecode): texts S4. -/
set_option linter.unusedVariables false
set_option linter.unusedSimpArgs false
namespace Go.Proofs.YtcnallabiffemaaGreatDoor
open Go.RowKit (wrap32 wrap64 intOf Hid Below)
open Zx

set_option maxRecDepth 100000 in
set_option maxHeartbeats 2000000 in
theorem ascC (w : World) (s bb n i base m k : Nat) (d : Nat → Nat) (v vt vm : Value) (l out : List Nat) (hg : Gr w w.heap.size s bb n d base v w i 0 v l) (hin : i ≤ n) (hd : dAsc (ds d n i) = some (m, out, k)) :
    Calls Tryz.prog 97 #[pt s, v, vt, vm] w (SegTo w s bb n d base v (i + k) (l ++ out) (fun v' => .returned (.tuple #[.int .i64 m, v', vt, .nilIface]))) := by
  have hn := hg.src.n1
  have HG := Lib.hid hg; clear hg
  have a0 : AscAt d n i m out k i [] := ⟨out, k, Nat.le_refl _, hin, hd, rfl, by omega⟩
  have A0 := Lib.hid a0; clear a0 hd
  have L0 := Lib.hid HG.out.lts
  go_enter Tryz.func97, Tryz.ntmps97
  go_wp2_with fail
  go_loopg [1, 2, 12] (n - i) (fun g v1 v2 u wr => ∃ (x : Value) (j : Nat) (acc : List Nat), x = v1 ∧ AscAt d n i m out k j acc ∧ g = n - j ∧ v2 = vt ∧ u = .bool false ∧ Gr w w.heap.size s bb n d base v wr j 0 x (l ++ acc))
  case atStart => exact ⟨v, i, [], rfl, A0.out, rfl, rfl, rfl, by rw [List.append_nil]; exact HG.out⟩
  case round =>
    obtain ⟨v1, j, acc, rfl, ha, hgk, rfl, rfl, hg⟩ := hrel
    obtain ⟨gM, rfl⟩ : ∃ g, g = gk := ⟨_, rfl⟩
    have hjn := ha.le
    have HA := Lib.hid ha; clear ha
    have HGK := Lib.hid hgk; clear hgk
    have hlj := hg.len
    obtain ⟨L, hL⟩ : ∃ L, l ++ acc = L := ⟨_, rfl⟩
    rw [hL] at hg hlj
    have HL := Lib.hid hL; clear hL
    have G := Lib.hid hg; clear hg
    by_cases hj : j < n
    · have hf := HA.out.fine hj
      have hd1 := G.out.src.lt j hj
      go_wp2_with fail
      refine (avail wr s bb n j 0 d G.out.src hjn.2 (by decide)).mono ?_
      rintro e w1 ⟨rfl, md, rfl⟩
      obtain ⟨w1, hw1⟩ : ∃ w1, w1 = wr.drewN md := ⟨_, rfl⟩
      rw [← hw1]
      have G1 : Hid (Gr w w.heap.size s bb n d base v w1 j 0 v1 L) := Lib.hid (by rw [hw1]; exact G.out.dn md)
      clear hw1 G
      go_wp2_with fail
      refine (rb8 w1 s bb n j d G1.out.src hj).mono ?_
      rintro e w2 ⟨rfl, hs2, hb2, hz2⟩
      clear hz2
      have G2 := Lib.hid (G1.out.read hs2 hb2 (Nat.le_succ j)); clear hs2 hb2 G1
      obtain ⟨b, hb⟩ : ∃ b, d j = b := ⟨_, rfl⟩
      rw [hb] at hf hd1 ⊢
      have HB := Lib.hid hb; clear hb
      by_cases c1 : b ≤ 128
      · have hl := HA.out.low hj (by rw [HB.out]; exact hf.1) (by rw [HB.out]; exact c1)
        rw [HB.out] at hl
        obtain ⟨rfl, rfl, hik⟩ := hl
        go_wp2_with (at_builtin; refine wpList_appV rfl (.tmp 36) (.tmp 40) 32 5 rfl Tryz.underlying32 (.int .u8 0) 1 infoB rfl (by decide) base v1 _ rfl (G2.out.new _) ⟨w2.heap.size, 0, none⟩ 1 1 [_] rfl rfl (cell_one_new _ _ _) (one_u8 _) (by have := G2.out.room (by omega); omega) (G2.out.bs _) ?_)
        intro v' w3 H
        have G3 := G2.out.app1 H.out (c := b - 1) (by rw [show ((b : Int) - 1) = ((b - 1 : Nat) : Int) by omega]) (by omega)
        go_wp2
        go_returns
        refine ⟨v', rfl, ?_⟩
        rw [hik, ← List.append_assoc, HL.out]
        exact G3
      · by_cases c2 : b = 129
        · subst c2
          obtain ⟨rfl, rfl, hik⟩ := HA.out.pad hj HB.out
          go_wp2
          go_returns
          refine ⟨_, rfl, ?_⟩
          rw [hik, HL.out]
          exact G2.out
        · by_cases c3 : b ≤ 229
          · have hp := HA.out.pair hj (by rw [HB.out]; omega) (by rw [HB.out]; exact c3)
            rw [HB.out] at hp
            have HP := Lib.hid hp; clear hp
            obtain ⟨x, hx⟩ : ∃ x, b = x + 130 := ⟨b - 130, by omega⟩
            subst hx
            have hx100 : x < 100 := by omega
            rw [Nat.add_sub_cancel] at HP
            have hdc := dec2 x hx100
            by_cases c4 : x < 10
            · rw [if_pos c4] at hdc
              have HDC := Lib.hid hdc; clear hdc
              go_wp2_with (at_builtin; refine wpList_appV rfl (.tmp 54) (.tmp 55) 32 5 rfl Tryz.underlying32 (.int .u8 0) 1 infoB rfl (by decide) base v1 (L.map byt) rfl (G2.out.new _) ⟨w2.heap.size, 0, none⟩ 1 1 [_] rfl rfl (cell_one_new _ _ _) (one_u8 _) (by have := G2.out.room (by omega); omega) (G2.out.bs _) ?_)
              intro v' w3 H
              have hg3 := Gr.app1 (c := 48) G2.out H.out rfl (by omega)
              obtain ⟨L2, hL2⟩ : ∃ L2, L ++ [48] = L2 := ⟨_, rfl⟩
              rw [hL2] at hg3
              have hl2 : L2.length = L.length + 1 := by rw [← hL2, List.length_append]; rfl
              have HL2 := Lib.hid hL2; clear hL2
              have HLN := Lib.hid hl2; clear hl2
              have G3 := Lib.hid hg3; clear hg3
              clear H G2
              go_wp2_with fail
              refine (itoaC x hx100 w3).mono ?_
              rintro e w' ⟨⟨st, rfl, hst⟩, rfl⟩
              have hch : chs st = [x + 48] := by unfold chs; rw [hst]; exact HDC.out
              have hsz : st.size = 1 := by rw [← chs_len, hch]; rfl
              have HCH := Lib.hid hch; clear hch hst
              have hbo := bytesOf w3 st
              rw [hsz] at hbo
              have HSZ := Lib.hid hsz; clear hsz
              go_wp2_with (at_builtin; refine wpList_appV rfl (.tmp 57) (.tmp 60) 32 5 rfl Tryz.underlying32 (.int .u8 0) 1 infoB rfl (by decide) base v' (L2.map byt) rfl (G3.out.newD _) ⟨w3.heap.size, 0, none⟩ 1 _ ((chs st).map byt) rfl (by rw [List.length_map, HCH.out]; rfl) (bytes_cells w3 st _ _) (byt_one _) (by have := G3.out.room (by omega); omega) (G3.out.bsD _) ?_)
              intro v'' w4 H
              have G4 := Lib.hid (Gr.appD G3.out H.out (by rw [List.length_append, HCH.out, HLN.out, List.length_cons, List.length_nil]; omega))
              clear H hbo
              go_wp2
              go_roundg (n - (j + 1))
              case rel => exact ⟨v'', j + 1, _, rfl, HP.out, rfl, rfl, rfl, by rw [← List.append_assoc, HL.out, show x / 10 + 48 = 48 by omega, show x % 10 + 48 = x + 48 by omega]; have := G4.out; rw [HCH.out, ← HL2.out, List.append_assoc] at this; exact this⟩
              case measure => have := HGK.out; omega
            · rw [if_neg c4] at hdc
              have HDC := Lib.hid hdc; clear hdc
              go_wp2_with fail
              refine (itoaC x hx100 w2).mono ?_
              rintro e w' ⟨⟨st, rfl, hst⟩, rfl⟩
              have hch : chs st = [x / 10 + 48, x % 10 + 48] := by unfold chs; rw [hst]; exact HDC.out
              have hsz : st.size = 2 := by rw [← chs_len, hch]; rfl
              have HCH := Lib.hid hch; clear hch hst
              have hbo := bytesOf w2 st
              rw [hsz] at hbo
              have HSZ := Lib.hid hsz; clear hsz
              go_wp2_with (at_builtin; refine wpList_appV rfl (.tmp 57) (.tmp 60) 32 5 rfl Tryz.underlying32 (.int .u8 0) 1 infoB rfl (by decide) base v1 (L.map byt) rfl (G2.out.newD _) ⟨w2.heap.size, 0, none⟩ 2 _ ((chs st).map byt) rfl (by rw [List.length_map, HCH.out]; rfl) (bytes_cells w2 st _ _) (byt_one _) (by have := G2.out.room (by omega); omega) (G2.out.bsD _) ?_)
              intro v' w3 H
              have G3 := Lib.hid (Gr.appD G2.out H.out (by rw [List.length_append, HCH.out, List.length_cons, List.length_cons, List.length_nil]; omega))
              clear H hbo
              go_wp2
              go_roundg (n - (j + 1))
              case rel => exact ⟨v', j + 1, _, rfl, HP.out, rfl, rfl, rfl, by rw [← List.append_assoc, HL.out, ← HCH.out]; exact G3.out⟩
              case measure => have := HGK.out; omega
          · by_cases c5 : b = 230
            · subst c5
              obtain ⟨rfl, rfl, hik⟩ := HA.out.latch hj 230 2 HB.out (by decide)
              go_wp2
              go_returns
              refine ⟨_, rfl, ?_⟩
              rw [hik, HL.out]
              exact G2.out
            · by_cases c6 : b = 231
              · subst c6
                obtain ⟨rfl, rfl, hik⟩ := HA.out.latch hj 231 6 HB.out (by decide)
                go_wp2
                go_returns
                refine ⟨_, rfl, ?_⟩
                rw [hik, HL.out]
                exact G2.out
              · by_cases c7 : b = 238
                · subst c7
                  obtain ⟨rfl, rfl, hik⟩ := HA.out.latch hj 238 4 HB.out (by decide)
                  go_wp2
                  go_returns
                  refine ⟨_, rfl, ?_⟩
                  rw [hik, HL.out]
                  exact G2.out
                · by_cases c8 : b = 239
                  · subst c8
                    obtain ⟨rfl, rfl, hik⟩ := HA.out.latch hj 239 3 HB.out (by decide)
                    go_wp2
                    go_returns
                    refine ⟨_, rfl, ?_⟩
                    rw [hik, HL.out]
                    exact G2.out
                  · obtain rfl : b = 240 := by omega
                    obtain ⟨rfl, rfl, hik⟩ := HA.out.latch hj 240 5 HB.out (by decide)
                    go_wp2
                    go_returns
                    refine ⟨_, rfl, ?_⟩
                    rw [hik, HL.out]
                    exact G2.out
    · obtain rfl : j = n := by omega
      obtain ⟨rfl, rfl, hik⟩ := HA.out.end_
      go_wp2_with fail
      refine (avail wr s bb j j 0 d G.out.src (Nat.le_refl _) (by decide)).mono ?_
      rintro e w1 ⟨rfl, md, rfl⟩
      go_wp2
      go_returns
      refine ⟨_, rfl, ?_⟩
      rw [hik, HL.out]
      exact G.out.dn md
end Go.Proofs.YtcnallabiffemaaGreatDoor
