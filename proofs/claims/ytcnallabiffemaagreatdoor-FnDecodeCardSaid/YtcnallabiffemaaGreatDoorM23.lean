import Derived.Maps.OwnSet
import Derived.Deep.QuietTactic
import Derived.BigQuiet
import Derived.Test.YtcnallabiffemaaGreatDoorM06
import Derived.Test.YtcnallabiffemaaGreatDoorM22
/- Part of the proof that a Data Matrix symbol of a text, damaged at most to half of its check codewords in each block, is decoded to the text (FnDecode): texts T3 T4. -/
set_option linter.unusedVariables false
set_option linter.unusedSimpArgs false
namespace Go.Proofs.YtcnallabiffemaaGreatDoor
open Go.RowKit (wrap32 wrap64 intOf Hid Below)
open Zx

set_option maxRecDepth 100000 in
set_option maxHeartbeats 4000000 in
theorem basC (w : World) (s bb n i base k lim : Nat) (d : Nat → Nat) (v vs : Value) (xs : List Value) (l out : List Nat) (hg : Gr w w.heap.size s bb n d base v w i 0 v l) (hin : i < n) (hvs : OwnV w 32 base vs xs) (hlim : lim ≤ 5000) (hxs : xs.length < lim)
    (hne : ∀ b, v.ownBlock = some b → vs.ownBlock ≠ some b) (hd : dBas i (ds d n i) = some (out, k)) (h128 : ∀ x ∈ out, x < 128) (hout : out ≠ []) :
    Calls Tryz.prog 102 #[pt s, v, vs] w (BasTo w s bb n lim d base v vs (i + k) (l ++ out)) := by
  have hn := hg.src.n1
  have HG := Lib.hid hg; clear hg
  have hba := bas_at hin hd
  have hdi := HG.out.src.lt i hin
  have HVS := Lib.hid hvs; clear hvs hd
  have HNE := Lib.hid hne; clear hne
  have H128 := Lib.hid h128; clear h128
  have HOUT := Lib.hid hout; clear hout
  have hul := unr_lt (d i) (i + 1)
  go_enter Tryz.func102, Tryz.ntmps102
  go_wp2_with fail
  refine (bytOff w s bb n i 0 d HG.out.src).mono ?_
  rintro e w' ⟨rfl, hw⟩
  obtain rfl := hw
  go_wp2_with fail
  refine (rb8 w s bb n i d HG.out.src hin).mono ?_
  rintro e w1 ⟨rfl, hs1, hb1, hz1⟩
  clear hz1
  have G1 := Lib.hid (HG.out.read hs1 hb1 (Nat.le_succ i)); clear hs1 hb1
  obtain ⟨b, hb⟩ : ∃ b, d i = b := ⟨_, rfl⟩
  rw [hb] at hba hdi hul ⊢
  clear hb
  have e1 : (1 : Int) + (i : Int) = ((i + 1 : Nat) : Int) := by omega
  have un1 := unrC w1 b (i + 1) hdi (by omega)
  rw [← e1] at un1
  clear e1
  obtain ⟨u, hu⟩ : ∃ u, unr b (i + 1) = u := ⟨_, rfl⟩
  rw [hu] at hba hul un1
  clear hu
  have HBA := Lib.hid hba; clear hba
  go_wp2_with fail
  refine un1.mono ?_
  rintro e w' ⟨rfl, hw⟩
  obtain rfl := hw
  clear un1
  go_upto_if 36 with fail
  go_cut [9, 13] from 36 to 56 (fun s9 s13 wx => ∃ j c, BasAt d n i out k j c ∧ s9 = .int .i64 ((j : Int) + 1) ∧ s13 = .int .i64 c ∧ Gr w w.heap.size s bb n d base v wx j 0 v l)
  case first =>
    rcases HBA.out with ⟨h1, h2⟩ | ⟨h1, h2, h3⟩ | ⟨h1, h2, h3⟩
    · have H2 := Lib.hid h2; clear h2
      have q1 := int_bt (a := (u : Int)) (b := 0) (by omega)
      clear h1
      go_wp2_with fail
      refine (avail w1 s bb n (i + 1) 0 d G1.out.src hin (by decide)).mono ?_
      rintro e w2 ⟨rfl, md, rfl⟩
      have e2 : (8 * ((n : Int) - ((i + 1 : Nat) : Int)) - ((0 : Nat) : Int)) / 8 = ((n - (i + 1) : Nat) : Int) := by omega
      go_wp2
      go_meet
      exact ⟨i + 1, n - (i + 1), H2.out, by go_num, by go_num, G1.out.dn md⟩
    · have H3 := Lib.hid h3; clear h3
      have q1 := int_bf (a := (u : Int)) (b := 0) (by omega)
      clear h1
      go_wp2
      go_meet
      exact ⟨i + 1, u, H3.out, by go_num, rfl, G1.out⟩
    · have hd2 := G1.out.src.lt (i + 1) h2
      have hu2 := unr_lt (d (i + 1)) (i + 2)
      have H3 := Lib.hid h3; clear h3
      have q1 := int_bf (a := (u : Int)) (b := 0) (by omega)
      go_wp2_with fail
      refine (rb8 w1 s bb n (i + 1) d G1.out.src h2).mono ?_
      rintro e w2 ⟨rfl, hs2, hb2, hz2⟩
      clear hz2
      have G2 := Lib.hid (G1.out.read hs2 hb2 (Nat.le_succ _)); clear hs2 hb2
      obtain ⟨b2, hb2⟩ : ∃ b, d (i + 1) = b := ⟨_, rfl⟩
      rw [hb2] at hd2 hu2 H3 ⊢
      clear hb2
      have un2 := unrC w2 b2 (i + 2) hd2 (by omega)
      rw [show ((i + 2 : Nat) : Int) = 1 + (i : Int) + 1 by omega] at un2
      obtain ⟨u2, hu2'⟩ : ∃ u, unr b2 (i + 2) = u := ⟨_, rfl⟩
      rw [hu2'] at hu2 un2 H3
      clear hu2'
      go_wp2_with fail
      refine un2.mono ?_
      rintro e w' ⟨rfl, hw⟩
      obtain rfl := hw
      clear un2
      go_wp2
      go_meet
      exact ⟨i + 2, _, H3.out, by go_num, by exact val_int (by omega), G2.out⟩
  obtain ⟨j, c, hba, rfl, rfl, hg⟩ := hcut
  obtain ⟨w3, rfl⟩ : ∃ w3 : World, w3 = wc := ⟨_, rfl⟩
  clear HBA G1 hdi hul HG
  have hjc := hba.2.1
  have hij := hba.1
  have HBA := Lib.hid hba; clear hba
  have hlen : out.length = c := by rw [HBA.out.2.2.1]; simp
  have hc0 : 0 < c := by rw [← hlen]; exact List.length_pos_iff.2 HOUT.out
  have HLEN := Lib.hid hlen; clear hlen
  have G3 := Lib.hid hg; clear hg
  have hmk := run_make_row' (P := Tryz.prog) 32 5 (.int .u8 0) 1 Tryz.underlying32 infoB rfl .i64 .i64 c (by omega) (by omega)
  have qle := G3.out.but.size
  have g4 := Lib.hid ((G3.out.all ((Below.refl _ _).alloc (Nat.le_refl _) (.cells (madeCells #[.int .u8 0] c) 5))).req rfl (q' := w3.heap.size + 1) (by omega) (by rw [World.size_alloc]; exact Nat.le_refl _))
  have r4 := Lib.hid ((World.rowIs_made w3 (.int .u8 0) c 5).congr (g := fun q => if q < 0 then byt (unr (d (j + q)) (j + q + 1)) else byt 0) fun q _ => by rw [if_neg (Nat.not_lt_zero q)]; rfl)
  clear G3
  go_wp2_with fail
  go_loopw [9, 17] (fun s9 s17 wr => ∃ t : Nat, t ≤ c ∧ s9 = .int .i64 (((j + t : Nat) : Int) + 1) ∧ s17 = .int .i64 t ∧ Gr w (w3.heap.size + 1) s bb n d base v wr (j + t) 0 v l ∧ wr.rowIs w3.heap.size 5 c (fun q => if q < t then byt (unr (d (j + q)) (j + q + 1)) else byt 0)) (fun _ s17 _ => c - (intOf s17).toNat)
  case atStart => exact ⟨0, Nat.zero_le _, rfl, rfl, g4.out, r4.out⟩
  case round =>
    clear g4 r4 hmk
    obtain ⟨t, htc, rfl, rfl, hg, hrow⟩ := hrel
    obtain ⟨w4, rfl⟩ : ∃ w4 : World, w4 = wr := ⟨_, rfl⟩
    have G4 := Lib.hid hg; clear hg
    have R4 := Lib.hid hrow; clear hrow
    by_cases ht : t < c
    · have hdt := G4.out.src.lt (j + t) (by omega)
      go_wp2_with fail
      refine (avail w4 s bb n (j + t) 0 d G4.out.src (by omega) (by decide)).mono ?_
      rintro e w5 ⟨rfl, md, rfl⟩
      obtain ⟨w5, hw5⟩ : ∃ w5, w5 = w4.drewN md := ⟨_, rfl⟩
      rw [← hw5]
      have G5 : Hid (Gr w (w3.heap.size + 1) s bb n d base v w5 (j + t) 0 v l) := Lib.hid (by rw [hw5]; exact G4.out.dn md)
      have R5 : Hid (w5.rowIs w3.heap.size 5 c (fun q => if q < t then byt (unr (d (j + q)) (j + q + 1)) else byt 0)) := Lib.hid (by rw [hw5]; exact R4.out)
      clear hw5 G4 R4
      go_wp2_with fail
      refine (rb8 w5 s bb n (j + t) d G5.out.src (by omega)).mono ?_
      rintro e w6 ⟨rfl, hs6, hb6, hz6⟩
      clear hz6
      have R6 := Lib.hid (hb6.row R5.out (show ¬ w3.heap.size = s by have := G5.out.lts; omega))
      have G6 := Lib.hid (G5.out.read hs6 hb6 (Nat.le_succ _)); clear hs6 hb6 G5 R5
      obtain ⟨b, hb⟩ : ∃ b, d (j + t) = b := ⟨_, rfl⟩
      rw [hb] at hdt ⊢
      have hul := unr_lt b (j + t + 1)
      have un1 := unrC w6 b (j + t + 1) hdt (by omega)
      rw [show ((j + t + 1 : Nat) : Int) = ((j + t : Nat) : Int) + 1 by omega] at un1
      obtain ⟨y, hy⟩ : ∃ u, unr b (j + t + 1) = u := ⟨_, rfl⟩
      have hby : unr (d (j + t)) (j + t + 1) = y := by rw [hb]; exact hy
      rw [hy] at hul un1
      have HBY := Lib.hid hby
      clear hb hy hby
      have gc := R6.out.cell ht
      rw [if_neg (Nat.lt_irrefl t)] at gc
      have gf := R6.out.frozen t
      go_wp2_with fail
      refine un1.mono ?_
      rintro e w' ⟨rfl, hw⟩
      obtain rfl := hw
      clear un1
      have hwy := wraps_u8 (y : Int) (by omega) (by omega)
      have G7 := Lib.hid (G6.out.side ((But.refl (· = w3.heap.size) w6).thenSet (a := ⟨w3.heap.size, t, none⟩) (.inl rfl) (byt y)) (by omega) (Nat.lt_succ_self _))
      have R7 := Lib.hid ((R6.out.set t (byt y)).congr (g := fun q => if q < t + 1 then byt (unr (d (j + q)) (j + q + 1)) else byt 0) fun q _ => by
        by_cases h1 : q = t
        · subst h1; rw [if_pos rfl, if_pos (Nat.lt_succ_self _), HBY.out]
        · rw [if_neg h1]
          by_cases h2 : q < t
          · rw [if_pos h2, if_pos (by omega)]
          · rw [if_neg h2, if_neg (by omega)])
      clear G6 R6
      go_wp2
      go_roundw
      case rel => exact ⟨t + 1, ht, by go_num, by go_num, by rw [← Nat.add_assoc]; exact G7.out, R7.out⟩
      case measure => simp [intOf]; omega
    · obtain rfl : t = c := by omega
      have hvs4 := G4.out.vs HVS.out HNE.out
      have HVS4 := Lib.hid hvs4; clear hvs4
      go_wp2_with (at_builtin; refine wpList_appV rfl (.tmp 98) (.tmp 100) 37 32 rfl Tryz.underlying37 (.slice none 0 0) 24 info32 rfl (by decide) base vs xs rfl (HVS4.out.below ((Below.refl _ _).alloc (Nat.le_refl _) _)) ⟨w4.heap.size, 0, none⟩ 1 1 [_] rfl rfl (cell_one_new _ _ _) (by intro u hu; simp at hu; subst hu; rfl) (by omega) (G4.out.bs _) ?_)
      intro vs' w5 H5
      have hr5 : w5.rowIs w3.heap.size 5 t (fun q => byt (unr (d (j + q)) (j + q + 1))) := (H5.out.but.row (R4.out.alloc _) (fun hv => by have := (HVS.out.lt hv).2; omega)).congr fun q hq => by rw [if_pos hq]
      have hz := zzDec w5 w3.heap.size t (fun q => unr (d (j + q)) (j + q + 1)) hr5 (fun q hq => H128.out _ (by rw [HBA.out.2.2.1]; exact List.mem_map.2 ⟨q, List.mem_range.2 hq, rfl⟩)) (by omega)
      rw [← HBA.out.2.2.1] at hz
      clear hr5
      go_wp2_with fail
      refine hz.mono ?_
      rintro e w6 ⟨v2, rfl, ho2, hb6⟩
      clear hz
      have HB6 := Lib.hid hb6; clear hb6
      rcases ho2.shape with ⟨_, h0⟩ | ⟨g, cap, rfl, hg1, hg2, hg3, hg4, hg5⟩
      · exact absurd (List.map_eq_nil_iff.1 h0) HOUT.out
      · rw [List.length_map, HLEN.out] at hg3 ⊢
        have HG4 := Lib.hid hg4; clear hg4 hg5 ho2
        have hv6 : OwnB w6 base v l := by
          have h5 := H5.out.toA
          exact (G4.out.own.keep h5.but fun k hk hv => HNE.out k hk hv).below HB6.out
        have HV6 := Lib.hid hv6; clear hv6
        have hll := G4.out.len
        have sz6 := HB6.out.size
        have sz5 := H5.out.toA.but.size
        have bs4 := G4.out.lts.2.2
        have bs5 := G4.out.but.size
        go_wp2_with (at_builtin; refine wpList_appV rfl (.tmp 112) (.tmp 113) 32 5 rfl Tryz.underlying32 (.int .u8 0) 1 infoB rfl (by decide) base v (l.map byt) rfl HV6.out ⟨g, 0, none⟩ t cap (out.map byt) rfl (by rw [List.length_map, HLEN.out]) (fun q u hu => by rw [addr_add, Nat.zero_add]; exact HG4.out q u hu) (byt_one _) (by rw [List.length_map]; omega) (by omega) ?_)
        intro v' w7 H7
        have HT := Lib.hid (basTo_mk (G4.out) HVS.out HNE.out hxs H5.out HB6.out H7.out)
        clear H7 H5 G4
        go_wp2
        go_returns
        rw [HBA.out.2.2.2]
        exact HT.out
end Go.Proofs.YtcnallabiffemaaGreatDoor
namespace Go.Proofs.YtcnallabiffemaaGreatDoor
open Go.RowKit (wrap32 wrap64 intOf Hid Below)
open Zx Go.Maps

theorem keyI : Keyed Tryz.prog 3 := int_keyed Tryz.underlying3
theorem zeroU (w : World) : (zeroValue 253).run Tryz.prog w = .ok (.agg #[]) w := by kernel_rfl

/-- an empty set of numbers -/
theorem contC (w : World) (mb : Nat) (k : Nat) (hk : k < 100) (h : w.heap[mb]? = some (.map #[] 0)) :
    Calls Tryz.prog 103 #[.map (some mb), .int .i64 k] w fun e w' => e = .returned (.bool false) ∧ Below w.heap.size w w' := by
  have hm : w.ownsMap (H := Unit) Tryz.prog 3 unitElem mb 0 (.map []) := ⟨#[], 0, h, ⟨by simp, MapKept.stamped_empty 0, by simp⟩, Nat.le_refl _, rfl⟩
  have HM := Lib.hid hm; clear hm h
  have hkey : keyOf Tryz.prog 3 (.int .i64 (k : Int)) = some (.int .i64 (k : Int)) := keyOf_int_mk Tryz.underlying3 (by
    simp only [Lit.wf, Bool.and_eq_true, decide_eq_true_eq]
    have h1 : IntKind.i64.min = -9223372036854775808 := rfl
    have h2 : IntKind.i64.max = 9223372036854775807 := rfl
    omega)
  have HK := Lib.hid hkey; clear hkey
  go_enter Tryz.func103, Tryz.ntmps103
  go_wp2_with (at_lookup; refine wpList_lookup_own_unit _ rfl _ _ 168 rfl 3 253 keyI Tryz.underlying168 (zeroU _) mb 0 (.map []) rfl HM.out _ _ rfl HK.out ?_)
  go_wp2
  go_ret
  exact ⟨rfl, by first | exact (Below.refl _ _).alloc (Nat.le_refl _) _ | exact ((Below.refl _ _).alloc (Nat.le_refl _) _).alloc (by simp) _⟩

/-- a result: its codewords, its text -/
def Rslt (w : World) (p : Nat) (raw : Value) (st : ByteArray) : Prop := w.cell? ⟨p, 0, none⟩ = some raw ∧ w.cell? ⟨p, 2, none⟩ = some (.string st) ∧ p < w.heap.size
theorem Rslt.below {w w' : World} {p : Nat} {raw : Value} {st : ByteArray} (h : Rslt w p raw st) (hb : Below w.heap.size w w') : Rslt w' p raw st :=
  ⟨(hb.cell (p := ⟨p, 0, none⟩) h.2.2).trans h.1, (hb.cell (p := ⟨p, 2, none⟩) h.2.2).trans h.2.1, Nat.lt_of_lt_of_le h.2.2 hb.size⟩
def RsltTo (w : World) (raw : Value) (st : ByteArray) (e : Ending) (w' : World) : Prop := e = .returned (pt w.heap.size) ∧ Rslt w' w.heap.size raw st ∧ Below w.heap.size w w'

theorem newRes (w : World) (ad : Option Addr) (n c : Nat) (st ec : ByteArray) (sa : Option Addr) (sn sc : Nat) (a b m : Int) (hn : n ≤ 100000) :
    Calls Tryz.prog 187 #[.slice ad n c, .string st, .slice sa sn sc, .string ec, .int .i64 a, .int .i64 b, .int .i64 m] w (RsltTo w (.slice ad n c) st) := by
  go_enter Tryz.func187, Tryz.ntmps187
  go_wp2
  go_ret
  exact ⟨rfl, ⟨World.cell?_alloc_new w _ _ 0, World.cell?_alloc_new w _ _ 2, by rw [World.size_alloc]; omega⟩, (Below.refl _ _).alloc (Nat.le_refl _) _⟩
theorem newResM (w : World) (ad : Option Addr) (n c : Nat) (st ec : ByteArray) (sa : Option Addr) (sn sc : Nat) (m : Int) (hn : n ≤ 100000) :
    Calls Tryz.prog 104 #[.slice ad n c, .string st, .slice sa sn sc, .string ec, .int .i64 m] w (RsltTo w (.slice ad n c) st) := by
  go_enter Tryz.func104, Tryz.ntmps104
  go_wp2_with fail
  refine (newRes w ad n c st ec sa sn sc (-1) (-1) m hn).mono ?_
  rintro e w1 ⟨rfl, h1, h2⟩
  have H1 := Lib.hid h1; clear h1
  have H2 := Lib.hid h2; clear h2
  go_wp2
  go_ret
  exact ⟨rfl, H1.out, H2.out⟩
theorem getTxt (w : World) (p : Nat) (raw : Value) (st : ByteArray) (h : Rslt w p raw st) : Calls Tryz.prog 30 #[pt p] w fun e w' => e = .returned (.string st) ∧ w = w' := by
  have b2 := h.2.1
  clear h
  go_enter Tryz.func30, Tryz.ntmps30
  go_wp2
  go_ret
  exact ⟨rfl, rfl⟩
theorem getRaw (w : World) (p : Nat) (raw : Value) (st : ByteArray) (h : Rslt w p raw st) : Calls Tryz.prog 32 #[pt p] w fun e w' => e = .returned raw ∧ w = w' := by
  have b2 := h.1
  clear h
  go_enter Tryz.func32, Tryz.ntmps32
  go_wp2
  go_ret
  exact ⟨rfl, rfl⟩
end Go.Proofs.YtcnallabiffemaaGreatDoor
