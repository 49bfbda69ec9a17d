import Derived.Test.YtcnallabiffemaaGreatDoorM15
import Derived.Test.YtcnallabiffemaaGreatDoorP12
import Derived.Test.YtcnallabiffemaaGreatDoorP14
/- Part of the proof that a Data Matrix symbol of a text, damaged at most to half of its check codewords in each block, is decoded to the text (FnDecode): texts C6. -/
set_option linter.unusedVariables false
set_option linter.unusedSimpArgs false
namespace Go.Proofs.YtcnallabiffemaaGreatDoor
open Go.RowKit (wrap32 wrap64 intOf Hid Below)
open Zx

def TrueTo (w : World) (e : Ending) (w' : World) : Prop := e = .returned (.bool true) ∧ Below w.heap.size w w'

theorem baOf_chs (s : ByteArray) : baOf (chs s) = s := by
  unfold baOf chs
  rw [List.map_map, show UInt8.ofNat ∘ UInt8.toNat = id from funext fun x => UInt8.ofNat_toNat, List.map_id]
/-- a symbol in a block of its own -/
def BoxAt (w : World) (b : Nat) (S : Sym) : Prop := w.cell? ⟨b, 0, none⟩ = some (.int .i64 S.rows) ∧ w.cell? ⟨b, 1, none⟩ = some (.int .i64 S.cols) ∧ w.cell? ⟨b, 2, none⟩ = some (.int .i64 S.down) ∧ w.cell? ⟨b, 3, none⟩ = some (.int .i64 S.across) ∧ w.cell? ⟨b, 4, none⟩ = some (.int .i64 S.data) ∧ w.cell? ⟨b, 5, none⟩ = some (.int .i64 S.check) ∧ w.cell? ⟨b, 6, none⟩ = some (.int .i64 S.blocks)
theorem BoxAt.below {w w' : World} {b : Nat} {S : Sym} (h : BoxAt w b S) (hb : Below w.heap.size w w') (hl : b < w.heap.size) : BoxAt w' b S := by
  obtain ⟨h0, h1, h2, h3, h4, h5, h6⟩ := h
  exact ⟨(hb.cell (p := ⟨b, 0, none⟩) hl).trans h0, (hb.cell (p := ⟨b, 1, none⟩) hl).trans h1, (hb.cell (p := ⟨b, 2, none⟩) hl).trans h2, (hb.cell (p := ⟨b, 3, none⟩) hl).trans h3, (hb.cell (p := ⟨b, 4, none⟩) hl).trans h4, (hb.cell (p := ⟨b, 5, none⟩) hl).trans h5, (hb.cell (p := ⟨b, 6, none⟩) hl).trans h6⟩
/-- what stands in the way of decoding -/
structure Hold (S : Sym) (fl : List Nat) (text : List Nat) : Prop where
  len : fl.length = S.data
  lt : ∀ x ∈ fl, x < 256
  dec : Dec 1 0 fl text

set_option maxRecDepth 100000 in
set_option maxHeartbeats 8000000 in
theorem decodeLaw (hwk : ∀ w, Calls Tryz.prog 6 #[] w (TrueTo w)) (w : World) (s : ByteArray) (cv hv pv : Value) (cs hs ps : List Int) (n : Int) (hn : I64 n) (hc : RdI w cv cs) (hh : RdI w hv hs) (hp : RdI w pv ps) (ic : ∀ x ∈ cs, I64 x) (ih : ∀ x ∈ hs, I64 x) (ip : ∀ x ∈ ps, I64 x) :
    Calls Tryz.prog 3 #[.string s, cv, .int .i64 n, hv, pv] w (TrueTo w) := by
  have HC := Lib.hid hc
  have HH := Lib.hid hh
  have HP := Lib.hid hp
  obtain ⟨ca, cc, rfl, _⟩ := hc.open_
  obtain ⟨ha, hcp, rfl, _⟩ := hh.open_
  obtain ⟨pa, pc, rfl, _⟩ := hp.open_
  clear hc hh hp
  have HWK := Lib.hid hwk; clear hwk
  have IC := Lib.hid ic; clear ic
  have IH := Lib.hid ih; clear ih
  have IP := Lib.hid ip; clear ip
  obtain ⟨cn, hcn⟩ : ∃ cn, cs.length = cn := ⟨_, rfl⟩
  obtain ⟨hn', hhn⟩ : ∃ hn', hs.length = hn' := ⟨_, rfl⟩
  obtain ⟨pn, hpn⟩ : ∃ pn, ps.length = pn := ⟨_, rfl⟩
  rw [hcn] at HC ⊢
  rw [hhn] at HH ⊢
  rw [hpn] at HP ⊢
  have HCN := Lib.hid hcn; clear hcn
  have HHN := Lib.hid hhn; clear hhn
  have HPN := Lib.hid hpn; clear hpn
  go_enter Tryz.func3, Tryz.ntmps3
  by_cases h1 : 2147483647 < s.size
  · go_wp2
    go_ret
    exact ⟨rfl, Below.refl _ _⟩
  by_cases h2 : 2147483647 < cn
  · go_wp2
    go_ret
    exact ⟨rfl, Below.refl _ _⟩
  by_cases h3 : 2147483647 < hn'
  · go_wp2
    go_ret
    exact ⟨rfl, Below.refl _ _⟩
  by_cases h4 : 2147483647 < pn
  · go_wp2
    go_ret
    exact ⟨rfl, Below.refl _ _⟩
  go_wp2_with fail
  refine (fineC w s (by omega)).mono ?_
  rintro e w' ⟨b, rfl, hb, hw⟩
  obtain rfl := hw
  have HB := Lib.hid hb; clear hb
  cases b with
  | false =>
    go_wp2_with fail
    refine (HWK.out w).mono ?_
    rintro e w' ⟨rfl, hbel⟩
    go_wp2
    go_ret
    exact ⟨rfl, hbel⟩
  | true =>
    obtain ⟨h128, hs0, hs1⟩ := HB.out rfl
    by_cases h5 : 100 < cn
    · go_wp2_with fail
      refine (HWK.out w).mono ?_
      rintro e w' ⟨rfl, hbel⟩
      go_wp2
      go_ret
      exact ⟨rfl, hbel⟩
    by_cases h6 : 3000 < hn'
    · go_wp2_with fail
      refine (HWK.out w).mono ?_
      rintro e w' ⟨rfl, hbel⟩
      go_wp2
      go_ret
      exact ⟨rfl, hbel⟩
    go_wp2_with fail
    refine (writtenC w s _ cs hs1 h128 HC.out IC.out (by rw [HCN.out]; omega)).mono ?_
    rintro e w1 ⟨v, words, rfl, hig, hok, hlt, hlen, hne⟩
    have hte : chs s ≠ [] := fun h => by have := chs_len s; rw [h] at this; simp at this; omega
    have hwn := hne hte
    obtain ⟨g, cap, rfl, hg1, hg2⟩ := hig.rd hwn
    have IG := Lib.hid hig
    have HOK := Lib.hid hok; clear hok
    have HLT := Lib.hid hlt; clear hlt
    have hwl : words.length ≤ 5000 := by rw [chs_len] at hlen; omega
    obtain ⟨wl, hwleq⟩ : ∃ wl, words.length = wl := ⟨_, rfl⟩
    have B1 := Lib.hid hig.bel; clear hig hlen
    rw [hwleq] at IG hwl ⊢
    have HWL := Lib.hid hwleq; clear hwleq
    have HG2 := Lib.hid hg2; clear hg2
    go_wp2_with fail
    refine (symbolC w1 n wl hn (by omega)).mono ?_
    rintro e w2 ⟨hsy, hb2⟩
    have B2 := Lib.hid hb2; clear hb2
    rcases hsy with ⟨i, hi29, hroom, rfl⟩ | rfl
    · obtain ⟨S, hS⟩ : ∃ S, symAt i = S := ⟨_, rfl⟩
      have hf := symFine i hi29
      have hlay := symLay i hi29
      rw [hS] at hroom hf hlay ⊢
      have HS := Lib.hid hS; clear hS
      unfold sv
      go_wp2_with fail
      obtain ⟨w3, hw3⟩ : ∃ w3, w2.alloc (.cells #[num S.rows, num S.cols, num S.down, num S.across, num S.data, num S.check, num S.blocks] 27) = w3 := ⟨_, rfl⟩
      have cb : Hid (∀ i, w3.cell? ⟨w2.heap.size, i, none⟩ = (#[num S.rows, num S.cols, num S.down, num S.across, num S.data, num S.check, num S.blocks])[i]?) := Lib.hid fun i => by rw [← hw3]; exact World.cell?_alloc_new w2 _ _ i
      have z3 : Hid (w3.heap.size = w2.heap.size + 1 ∧ Below w2.heap.size w2 w3) := Lib.hid (by rw [← hw3]; exact ⟨World.size_alloc _ _, (Below.refl _ _).alloc (Nat.le_refl _) _⟩)
      have RD3 : Hid (Rd w3 (.slice (some ⟨g, 0, none⟩) wl cap) words) := Lib.hid (by
        rw [← HWL.out]
        exact Rd.below (Rd.below (by rw [HWL.out]; exact IG.out.rd hwn) B2.out) z3.out.2)
      rw [show w2.alloc (.cells #[.int .i64 S.rows, .int .i64 S.cols, .int .i64 S.down, .int .i64 S.across, .int .i64 S.data, .int .i64 S.check, .int .i64 S.blocks] 27) = w3 from hw3]
      clear hw3
      refine (filledC w3 S _ words RD3.out hwn (by rw [HWL.out]; omega) (by have := hf.dc; omega)).mono ?_
      rintro e w4 ⟨v4, rfl, hig4⟩
      have hold : Hid (Hold S (fillN words (S.data - words.length)) (chs s)) := Lib.hid ⟨by rw [fillN_len]; rw [HWL.out]; omega, fillN_lt _ _ HLT.out, read_filled _ _ _ HOK.out (by rw [HWL.out]; omega)⟩
      generalize fillN words (S.data - words.length) = fl at hig4 hold
      have hdl : (toF fl).length = S.data := (toF_len _).trans hold.out.len
      have hvs : vs (toF fl) = fl := toF_v fl hold.out.lt
      have hfn : fl ≠ [] := fun h => by have := hold.out.len; rw [h] at this; simp at this; omega
      have RD4 : Hid (Rd w4 v4 (vs (toF fl))) := Lib.hid (by rw [hvs]; exact hig4.rd hfn)
      have b4 : Hid (Below w3.heap.size w3 w4) := Lib.hid hig4.bel
      have hbx : w2.heap.size < w3.heap.size := by rw [z3.out.1]; exact Nat.lt_succ_self _
      have BX4 : Hid (BoxAt w4 w2.heap.size S) := Lib.hid (BoxAt.below ⟨cb.out 0, cb.out 1, cb.out 2, cb.out 3, cb.out 4, cb.out 5, cb.out 6⟩ b4.out hbx)
      have hbx4 : w2.heap.size < w4.heap.size := Nat.lt_of_lt_of_le hbx b4.out.size
      obtain ⟨e0, e1, e2, e3, e4, e5, e6⟩ := BX4.out
      have B0 : Hid (Below w.heap.size w w4) := Lib.hid (((B1.out.trans (B2.out.mono B1.out.size)).trans (z3.out.2.mono (Nat.le_trans B1.out.size B2.out.size))).trans (b4.out.mono (by have := B1.out.size; have := B2.out.size; have := z3.out.1; omega)))
      have HH4 := Lib.hid (HH.out.below (l := hs) (B0.out))
      have HP4 := Lib.hid (HP.out.below (l := ps) (B0.out))
      clear hig4
      go_wp2_with fail
      obtain ⟨data, hdata⟩ : ∃ data, toF fl = data := ⟨_, rfl⟩
      rw [hdata] at RD4 hdl hvs
      have hWl : (wordsF data S.blocks S.n).length = S.data + S.check := by rw [wordsF_len, hdl, hf.cn]
      go_cut [14] from 67 to 73 (fun s14 wx => ∃ (v6 : Value) (out : List F), v6 = s14 ∧ Below w4.heap.size w4 wx ∧ Rd wx v6 (vs out) ∧ out.length = S.data + S.check ∧ ∀ b, b < S.blocks → 2 * (er (blk out S.blocks b) (blk (wordsF data S.blocks S.n) S.blocks b)).length ≤ S.n)
      case first =>
        go_region_with (first | (go_at_call 11; refine (wordsC _ S hf v4 data (by exact RD4.out) hdl).mono ?_; rintro e w5 ⟨v5, rfl, hig5⟩; have HB5 : Hid (Below w4.heap.size w4 w5) := Lib.hid (show Below w4.heap.size w4 w5 from ⟨hig5.bel.os, hig5.bel.tape, hig5.bel.output, hig5.bel.size, hig5.bel.block⟩); have RD5 := Lib.hid (hig5.rd (vs_ne (by rw [hWl]; omega))); clear hig5; have HH5 := Lib.hid (HH4.out.below HB5.out); have HP5 := Lib.hid (HP4.out.below HB5.out); obtain ⟨e0, e1, e2, e3, e4, e5, e6⟩ := BX4.out.below HB5.out hbx4) | (go_at_call 10; refine (damageC _ S hf _ _ _ (wordsF data S.blocks S.n) hs ps (by exact RD5.out) hWl (by exact HH5.out) (by exact HP5.out) IH.out IP.out (by rw [HHN.out]; omega) (by rw [HPN.out]; omega)).mono ?_; rintro e w6 ⟨v6, out, rfl, hig6, hol, hhurt⟩))
        all_goals
          have hb6 : Below w4.heap.size w4 w6 := HB5.out.trans ((show Below w5.heap.size w5 w6 from ⟨hig6.bel.os, hig6.bel.tape, hig6.bel.output, hig6.bel.size, hig6.bel.block⟩).mono HB5.out.size)
          have rd6 := hig6.rd (vs_ne (by rw [hol, hWl]; omega))
          have HB6 := Lib.hid hb6
          have RD6 := Lib.hid rd6
          have HOL := Lib.hid (hol.trans hWl)
          have HHU := Lib.hid hhurt
          clear hig6 hb6 rd6 hol hhurt
          go_wp2
          go_meet
          exact ⟨v6, out, rfl, HB6.out, RD6.out, HOL.out, HHU.out⟩
      obtain ⟨v6, out, rfl, hb6, rd6, hol, hhurt⟩ := hcut
      obtain ⟨w6, rfl⟩ : ∃ w6 : World, w6 = wc := ⟨_, rfl⟩
      have HB6 := Lib.hid hb6; clear hb6
      have RD6 := Lib.hid rd6; clear rd6
      have HHU := Lib.hid hhurt; clear hhurt
      obtain ⟨e0, e1, e2, e3, e4, e5, e6⟩ := BX4.out.below HB6.out hbx4
      apply_assumption
      go_wp2_with fail
      refine (drawnC w6 S hlay _ out RD6.out hol).mono ?_
      rintro e w7 ⟨m, r, gm, rfl, hmat, hshow, hb7⟩
      have HB7 := Lib.hid hb7; clear hb7
      have HMAT := Lib.hid hmat; clear hmat
      have HSHOW := Lib.hid hshow; clear hshow
      have hlF : (List.range S.data).map (fun o => (hi (wordsF data S.blocks S.n) o).v) = fl := by
        have h1 := ds_words data S.blocks S.n
        unfold ds at h1
        rw [List.drop_zero, hdl] at h1
        exact h1.trans hvs
      have hde : Dec 1 0 (ds (fun o => (hi (wordsF data S.blocks S.n) o).v) S.data 0) (chs s) := by
        unfold ds
        rw [List.drop_zero, hlF]; exact hold.out.dec
      have hd := implDec w7 m i r gm hi29 (wordsF data S.blocks S.n) out (chs s) (by rw [HS.out]; exact HMAT.out) (by rw [HS.out]; exact hol) (by rw [HS.out]; exact hWl) (by rw [HS.out]; exact HSHOW.out)
        (by rw [HS.out]; exact fun j hj t h1 h2 => blk_code data S.blocks S.n j S.k hf.b0.1 (hdl.trans hf.dk) hj t h1 h2) (by rw [HS.out]; exact HHU.out) (by rw [HS.out]; exact hde) h128 hte
      rw [HS.out] at hd
      obtain ⟨g4, c4, rfl, hg4, hc4⟩ := RD4.out
      have hvl : (vs data).length = S.data := (List.length_map _).trans hdl
      rw [hvl] at RD4 ⊢
      have HD := Lib.hid hd
      clear hd hde
      go_wp2_with fail
      refine HD.out.mono ?_
      rintro e w8 ⟨v8, rfl, hown, hb8⟩
      rw [hlF] at hown
      rw [baOf_chs]
      have hfll : (fl.map byt).length = S.data := by rw [List.length_map]; exact hold.out.len
      rcases hown.shape with ⟨_, h0⟩ | ⟨g8, c8, rfl, h82, h83, h84, h85, h86⟩
      · exact absurd (List.map_eq_nil_iff.1 h0) hfn
      rw [hfll]
      obtain ⟨N, hN⟩ : ∃ N, S.data = N := ⟨_, rfl⟩
      have HB8 := Lib.hid hb8; clear hb8
      have FB : Hid (Below w4.heap.size w4 w8) := Lib.hid ((HB6.out.trans (HB7.out.mono HB6.out.size)).trans (HB8.out.mono (Nat.le_trans HB6.out.size HB7.out.size)))
      have CL : Hid (∀ j, j < S.data → ∃ x, x < 256 ∧ w8.cell? ⟨g8, j, none⟩ = some (byt x) ∧ w8.cell? ⟨g4, j, none⟩ = some (.int .i64 x)) := Lib.hid fun j hj => by
        have hjl : j < fl.length := by rw [hold.out.len]; exact hj
        have hfj : fl[j]? = some fl[j] := List.getElem?_eq_getElem hjl
        refine ⟨fl[j], hold.out.lt _ (List.getElem_mem hjl), h85 j _ (by rw [List.getElem?_map, hfj]; rfl), ?_⟩
        exact (FB.out.cell (p := ⟨g4, j, none⟩) hg4).trans (hc4 j _ (by rw [hvs, List.getElem?_map, hfj]; rfl))
      have hg48 : g4 < w8.heap.size := Nat.lt_of_lt_of_le hg4 FB.out.size
      clear h85 h86 hc4 hown h84 h82 hfll
      go_wp2_with fail
      rw [hN] at CL
      obtain ⟨w9, hw9⟩ : ∃ w9, w8.alloc (.cells #[.string s, .slice (some ⟨g8, 0, none⟩) N c8] 34) = w9 := ⟨_, rfl⟩
      have k1 : w9.cell? ⟨w8.heap.size, 1, none⟩ = some (.slice (some ⟨g8, 0, none⟩) N c8) := by rw [← hw9]; exact World.cell?_alloc_new w8 _ _ 1
      have hb9 : Below w8.heap.size w8 w9 := by rw [← hw9]; exact (Below.refl _ _).alloc (Nat.le_refl _) _
      rw [hw9]
      clear hw9
      have CL9 : Hid (∀ j, j < N → ∃ x, x < 256 ∧ w9.cell? ⟨g8, j, none⟩ = some (byt x) ∧ w9.cell? ⟨g4, j, none⟩ = some (.int .i64 x)) := Lib.hid fun j hj => by
        obtain ⟨x, h1, h2, h3⟩ := CL.out j hj
        exact ⟨x, h1, (hb9.cell (p := ⟨g8, j, none⟩) h83).trans h2, (hb9.cell (p := ⟨g4, j, none⟩) hg48).trans h3⟩
      have BW : Hid (Below w.heap.size w w9) := Lib.hid (B0.out.trans ((FB.out.trans (hb9.mono FB.out.size)).mono B0.out.size))
      have hNb : N ≤ 2000 := by have := hf.dc; omega
      generalize w8.heap.size = b8 at k1 ⊢
      go_loopw [99] (fun s99 wr => ∃ j : Nat, j ≤ N ∧ s99 = .int .i64 j ∧ w9 = wr) (fun s99 _ => N - (intOf s99).toNat)
      case atStart => exact ⟨0, Nat.zero_le _, rfl, rfl⟩
      case round =>
        obtain ⟨j, hj, rfl, rfl⟩ := hrel
        by_cases hjN : j < N
        · obtain ⟨x, hx, d1, d2⟩ := CL9.out j hjN
          go_wp2_with fail
          go_roundw
          case rel => exact ⟨j + 1, hjN, by go_num, trivial⟩
          case measure => simp [intOf]; omega
        · obtain rfl : j = N := by omega
          go_wp2_with fail
          refine (HWK.out _).mono ?_
          rintro e w' ⟨rfl, hbel⟩
          go_wp2
          go_ret
          exact ⟨rfl, BW.out.trans (hbel.mono BW.out.size)⟩
    · have ZB : Hid (∀ o, Below w.heap.size w (w2.alloc o)) := Lib.hid fun o => (B1.out.trans (B2.out.mono B1.out.size)).trans (((Below.refl _ _).alloc (Nat.le_refl _) _).mono (Nat.le_trans B1.out.size B2.out.size))
      go_wp2_with fail
      refine (HWK.out _).mono ?_
      rintro e w' ⟨rfl, hbel⟩
      go_wp2
      go_ret
      exact ⟨rfl, (ZB.out _).trans (hbel.mono (ZB.out _).size)⟩
end Go.Proofs.YtcnallabiffemaaGreatDoor
