import Derived.Test.YtcnallabiffemaaGreatDoorP02
/- Part of the proof that a Data Matrix symbol of a text, damaged at most to half of its check codewords in each block, is decoded to the text (FnDecode): texts E15 E16 E17. -/
set_option linter.unusedVariables false
set_option linter.unusedSimpArgs false
namespace Go.Proofs.YtcnallabiffemaaGreatDoor
open Go.RowKit (wrap32 wrap64 intOf Hid Below)
open Zx

/-- a symbol is chosen -/
def UpdTo (w : World) (p g base : Nat) (l : List Nat) (sh : Int) (cv : Value) (pos : Nat) (cw : List Nat) (nw : Int) (sk k : Nat) (e : Ending) (w' : World) : Prop :=
  e = .returned .nilIface ∧ ∃ b, Ctx w' p g base l sh cv pos cw nw (some ⟨b, 0, none⟩) sk ∧ w'.rowIs b 212 10 (siF (siAt k)) ∧ w.heap.size ≤ b ∧ But (· = p) w w'

set_option maxRecDepth 100000 in
set_option maxHeartbeats 4000000 in
theorem updC (w : World) (p g base : Nat) (l : List Nat) (sh : Int) (cv : Value) (pos : Nat) (cw : List Nat) (nw : Int) (sk n k : Nat) (h : Ctx w p g base l sh cv pos cw nw none sk) (hn : n ≤ 5000) (hk : k < 30) (hfit : siFit n sh k = true) (hmin : ∀ j, j < k → siFit n sh j = false) :
    Calls Tryz.prog 194 #[pt p, .int .i64 n] w (UpdTo w p g base l sh cv pos cw nw sk k) := by
  have lk := fun w' => lookC w' n sh k hn hk hfit hmin
  have LK := Lib.hid lk; clear lk hfit hmin
  obtain ⟨c, hr⟩ := h.row
  have c7 : w.cell? ⟨p, 7, none⟩ = some (.pointer none) := hr.cell (i := 7) (by omega)
  have c1 : w.cell? ⟨p, 1, none⟩ = some (.int .i64 sh) := hr.cell (i := 1) (by omega)
  have c2 : w.cell? ⟨p, 2, none⟩ = some (.pointer none) := hr.cell (i := 2) (by omega)
  have c3 : w.cell? ⟨p, 3, none⟩ = some (.pointer none) := hr.cell (i := 3) (by omega)
  have H := Lib.hid h; clear h
  clear hr
  go_enter Tryz.func194, Tryz.ntmps194
  go_upto_region 3 with fail
  go_cut [5] from 5 to 39 (fun s5 wx => s5 = .nilIface ∧ ∃ b, Ctx wx p g base l sh cv pos cw nw (some ⟨b, 0, none⟩) sk ∧ wx.rowIs b 212 10 (siF (siAt k)) ∧ w.heap.size ≤ b ∧ But (· = p) w wx)
  case first =>
    go_wp2_with fail
    go_region_with ((go_at_call 68; go_loud (refine (LK.out _).mono ?_; rintro e w1 ⟨b, rfl, hrow, hb0, hb1⟩; have CC := Lib.hid ((show Ctx w.drew p g base l sh cv pos cw nw none sk from H.out.dn 1).below hb1); have RR := Lib.hid hrow; clear hrow; have hbp : ¬ b = p := (by have := H.out.pb.2.1; have h9 : w.heap.size ≤ b := hb0; omega); have BB2 : ∀ v, But (· = p) w1 (w1.setCell ⟨p, 7, none⟩ v) := (fun v => (But.refl (· = p) w1).thenSet (a := ⟨p, 7, none⟩) (.inl rfl) v); have BB := Lib.hid ((But.ofAll (S := (· = p)) (below_dn w.heap.size w 1)).thenAll hb1); clear hb1; obtain ⟨cc, hrr⟩ := CC.out.row; have f7 := hrr.frozen 7; have g7 : w1.cell? ⟨p, 7, none⟩ = some (.pointer none) := hrr.cell (i := 7) (by omega); clear hrr)))
    all_goals
      go_wp2
      go_meet
      exact ⟨rfl, b, CC.out.sySet _, (BB2 _).row RR.out (hbp ·), hb0, BB.out.thenSet (a := ⟨p, 7, none⟩) (.inl rfl) _⟩
  obtain ⟨rfl, b, hc, hrow, hb, hbut⟩ := hcut
  go_wp2
  go_ret
  exact ⟨rfl, b, hc, hrow, hb, hbut⟩
theorem updAll (w : World) (p g base : Nat) (l : List Nat) (sh : Int) (cv : Value) (pos : Nat) (cw : List Nat) (nw : Int) (sk k : Nat) (h : Ctx w p g base l sh cv pos cw nw none sk) (hn : cw.length ≤ 5000) (hk : k < 30) (hfit : siFit cw.length sh k = true) (hmin : ∀ j, j < k → siFit cw.length sh j = false) :
    Calls Tryz.prog 125 #[pt p] w (UpdTo w p g base l sh cv pos cw nw sk k) := by
  have u := updC w p g base l sh cv pos cw nw sk cw.length k h hn hk hfit hmin
  have U := Lib.hid u; clear u
  obtain ⟨c, hr⟩ := h.row
  have hcv : ∃ a cc, cv = .slice a cw.length cc := by
    rcases h.own.shape with ⟨rfl, h0⟩ | ⟨gc, cc, rfl, _⟩
    · have := congrArg List.length h0
      rw [List.length_map] at this
      exact ⟨none, 0, by rw [this]; rfl⟩
    · exact ⟨_, cc, by rw [List.length_map]⟩
  obtain ⟨a, cc, rfl⟩ := hcv
  have cnt := cwCountC w p _ a cw.length cc hr rfl
  go_enter Tryz.func125, Tryz.ntmps125
  go_wp2_with fail
  refine cnt.mono ?_
  rintro e w' ⟨rfl, hw⟩
  obtain rfl := hw
  go_wp2_with fail
  refine U.out.mono ?_
  rintro e w' ⟨rfl, hh⟩
  go_wp2
  go_ret
  exact ⟨rfl, hh⟩
end Go.Proofs.YtcnallabiffemaaGreatDoor
namespace Go.Proofs.YtcnallabiffemaaGreatDoor
open Go.RowKit (wrap32 wrap64 intOf Hid Below)
open Zx

abbrev S6 : ByteArray := ⟨#[49, 50, 51, 52, 53, 54]⟩
abbrev L6 : List Nat := [49, 50, 51, 52, 53, 54]
abbrev C6w : List Nat := [142, 164, 186]
theorem pre05 (w : World) : Calls Tryz.prog 117 #[.string S6, .string ⟨#[91, 41, 62, 30, 48, 53, 29]⟩] w fun e w' => e = .returned (.bool false) ∧ w' = w := by
  have h191 : Calls Tryz.prog 191 #[.string S6, .string ⟨#[91, 41, 62, 30, 48, 53, 29]⟩] w fun e w' => e = .returned (.bool false) ∧ w' = w := by
    go_enter Tryz.func191, Tryz.ntmps191
    go_wp2
    go_ret
    exact ⟨rfl, rfl⟩
  have H := Lib.hid h191; clear h191
  go_enter Tryz.func117, Tryz.ntmps117
  go_wp2_with fail
  refine H.out.mono ?_
  rintro e w' ⟨rfl, rfl⟩
  go_wp2
  go_ret
  exact ⟨rfl, rfl⟩
theorem pre06 (w : World) : Calls Tryz.prog 117 #[.string S6, .string ⟨#[91, 41, 62, 30, 48, 54, 29]⟩] w fun e w' => e = .returned (.bool false) ∧ w' = w := by
  have h191 : Calls Tryz.prog 191 #[.string S6, .string ⟨#[91, 41, 62, 30, 48, 54, 29]⟩] w fun e w' => e = .returned (.bool false) ∧ w' = w := by
    go_enter Tryz.func191, Tryz.ntmps191
    go_wp2
    go_ret
    exact ⟨rfl, rfl⟩
  have H := Lib.hid h191; clear h191
  go_enter Tryz.func117, Tryz.ntmps117
  go_wp2_with fail
  refine H.out.mono ?_
  rintro e w' ⟨rfl, rfl⟩
  go_wp2
  go_ret
  exact ⟨rfl, rfl⟩

def HlTo (w : World) (e : Ending) (w' : World) : Prop := ∃ cv, e = .returned (.tuple #[cv, .nilIface]) ∧ OwnB w' w.heap.size cv C6w ∧ Below w.heap.size w w'
theorem new6 (w : World) : Calls Tryz.prog 114 #[.string S6] w (NcxTo w L6) := newCtx w S6 (by decide) (by decide)
theorem dig6 : ∀ (j x : Nat), L6[j]? = some x → 48 ≤ x ∧ x ≤ 57 := fun j x h => by
  have := List.mem_of_getElem? h
  simp at this
  omega
theorem step6 (w : World) (p g base : Nat) (cv : Value) (t : Nat) (ht : t < 3) (h : Ctx w p g base L6 0 cv (2 * t) (C6w.take t) (-1) none 0) (hb : base ≤ w.heap.size) :
    Calls Tryz.prog 270 #[.agg #[], pt p] w fun e w' => e = .returned .nilIface ∧ ∃ cv', Ctx w' p g base L6 0 cv' (2 * (t + 1)) (C6w.take (t + 1)) (-1) none 0 ∧ But (fun k => k = p ∨ cv.ownBlock = some k) w w' := by
  rcases (show t = 0 ∨ t = 1 ∨ t = 2 by omega) with rfl | rfl | rfl
  · exact ascDigits w p g base L6 0 cv 0 [] (-1) none 0 h (by decide) dig6 49 50 rfl rfl (by decide) hb
  · exact ascDigits w p g base L6 0 cv 2 [142] (-1) none 0 h (by decide) dig6 51 52 rfl rfl (by decide) hb
  · exact ascDigits w p g base L6 0 cv 4 [142, 164] (-1) none 0 h (by decide) dig6 53 54 rfl rfl (by decide) hb
/-- the encoders stay where they are -/
structure Enc (w0 : World) (eb base : Nat) (wr : World) : Prop where
  cell : wr.cell? ⟨eb, 0, none⟩ = some (.iface 256 (.agg #[]))
  bel : Below w0.heap.size w0 wr
  lt : eb < base ∧ w0.heap.size ≤ base ∧ base ≤ wr.heap.size
theorem Enc.but {w0 : World} {eb base : Nat} {wr w' : World} (h : Enc w0 eb base wr) {S : Nat → Prop} (hb : But S wr w') (hs : ∀ k, S k → base ≤ k) : Enc w0 eb base w' := by
  obtain ⟨h1, h2, h3, h4, h5⟩ := h
  have hz := hb.size
  exact ⟨(hb.cell (p := ⟨eb, 0, none⟩) (show eb < _ by omega) (fun h => by have := hs eb h; omega)).trans h1, h2.trans (hb.below h2.size (fun k hk h => by have := hs k h; omega)), h3, h4, by omega⟩
theorem Enc.dn {w0 : World} {eb base : Nat} {wr : World} (h : Enc w0 eb base wr) (n : Nat) : Enc w0 eb base (wr.drewN n) := h.but (But.ofAll (S := fun _ => False) (below_dn _ _ _)) fun _ h => h.elim
theorem Ctx.ge {w : World} {p g base : Nat} {l : List Nat} {sh : Int} {cv : Value} {pos : Nat} {cw : List Nat} {nw : Int} {sy : Option Addr} {sk : Nat} (h : Ctx w p g base l sh cv pos cw nw sy sk) : ∀ k, k = p ∨ cv.ownBlock = some k → base ≤ k := by
  rintro k (rfl | hk)
  · exact h.pb.1
  · exact (h.own.lt hk).1

set_option maxRecDepth 100000 in
set_option maxHeartbeats 8000000 in
theorem hlC (w : World) : Calls Tryz.prog 67 #[.string S6, .int .i64 0, .pointer none, .pointer none] w (HlTo w) := by
  go_enter Tryz.func67, Tryz.ntmps67
  go_wp2_with fail
  refine (ascEnc _).mono ?_
  rintro e w' ⟨rfl, hw⟩
  obtain rfl := hw
  go_wp2_with fail
  refine (c40Enc _).mono ?_
  rintro e w1 ⟨rfl, hb1⟩
  have B1 := Lib.hid hb1; clear hb1
  go_wp2_with fail
  refine (txtEnc _).mono ?_
  rintro e w2 ⟨rfl, hb2⟩
  have B2 := Lib.hid (B1.out.trans (hb2.mono B1.out.size)); clear hb2 B1
  go_wp2_with fail
  refine (x12Enc _).mono ?_
  rintro e w' ⟨rfl, hw⟩
  obtain rfl := hw
  go_wp2_with fail
  refine (ediEnc _).mono ?_
  rintro e w' ⟨rfl, hw⟩
  obtain rfl := hw
  go_wp2_with fail
  refine (b256Enc _).mono ?_
  rintro e w' ⟨rfl, hw⟩
  obtain rfl := hw
  go_wp2_with fail
  obtain ⟨eb, heb⟩ : ∃ eb, w2.heap.size = eb := ⟨_, rfl⟩
  obtain ⟨W3, hW3⟩ : ∃ W3, w2.alloc (.cells #[.iface 256 (.agg #[]), .iface 257 (pt w.heap.size), .iface 257 (pt w1.heap.size), .iface 261 (.agg #[]), .iface 262 (.agg #[]), .iface 263 (.agg #[])] 189) = W3 := ⟨_, rfl⟩
  have en3 : Enc w eb W3.heap.size W3 := by
    have hz : W3.heap.size = w2.heap.size + 1 := by rw [← hW3]; exact World.size_alloc _ _
    have h2 := B2.out.size
    exact ⟨by rw [← hW3, ← heb]; exact World.cell?_alloc_new w2 _ _ 0, by rw [← hW3]; exact B2.out.alloc h2 _, by omega, by omega, Nat.le_refl _⟩
  have EN3 := Lib.hid en3; clear en3 B2
  rw [heb, hW3]
  clear hW3 heb
  refine (new6 W3).mono ?_
  rintro e w4 ⟨p, g, cv, rfl, hc, hb⟩
  have EN4 := Lib.hid (EN3.out.but (But.ofBelow (S := fun k => W3.heap.size ≤ k) hb (fun k _ h => by omega)) fun k h => h)
  clear hb EN3
  obtain ⟨base, hbase⟩ : ∃ base, W3.heap.size = base := ⟨_, rfl⟩
  rw [hbase] at EN4 hc
  clear hbase
  obtain ⟨c0, r0⟩ := hc.row
  have C0 := Lib.hid hc; clear hc
  have R0 := Lib.hid r0; clear r0
  go_wp2_with fail
  refine (setShapeC w4 p _ 0 R0.out).mono ?_
  rintro e w5 ⟨rfl, rfl⟩
  have C1 := Lib.hid (C0.out.shSet 0)
  have EN5 := Lib.hid (EN4.out.but ((But.refl (· = p) w4).thenSet (a := ⟨p, 1, none⟩) (.inl rfl) (.int .i64 0)) (fun k h => by rw [h]; exact C0.out.pb.1))
  clear C0 EN4 R0
  generalize w4.setCell ⟨p, 1, none⟩ (.int .i64 0) = w5 at C1 EN5 ⊢
  obtain ⟨c1, r1⟩ := C1.out.row
  have R1 := Lib.hid r1; clear r1
  go_wp2_with fail
  refine (setSizeC w5 p _ none none R1.out).mono ?_
  rintro e w6 ⟨rfl, rfl⟩
  have C2 := Lib.hid ((C1.out.set 2 (.pointer none) 0 0 (-1) none 0 (fun c i _ => by unfold cxR; by_cases h : i = 2 <;> simp [h])).set 3 (.pointer none) 0 0 (-1) none 0 (fun c i _ => by unfold cxR; by_cases h : i = 3 <;> simp [h]))
  have EN6 := Lib.hid (EN5.out.but (((But.refl (· = p) w5).thenSet (a := ⟨p, 2, none⟩) (.inl rfl) (.pointer none)).thenSet (a := ⟨p, 3, none⟩) (.inl rfl) (.pointer none)) (fun k h => by rw [h]; exact C1.out.pb.1))
  clear C1 EN5 R1
  generalize (w5.setCell ⟨p, 2, none⟩ (.pointer none)).setCell ⟨p, 3, none⟩ (.pointer none) = w6 at C2 EN6 ⊢
  go_wp2_with fail
  refine (pre05 w6).mono ?_
  rintro e w' ⟨rfl, hw⟩
  obtain rfl := hw
  go_wp2_with fail
  refine (pre06 w').mono ?_
  rintro e w6 ⟨rfl, hw⟩
  obtain rfl := hw
  go_wp2_with fail
  go_loopg [13] 3 (fun gk s13 wr => ∃ (t : Nat) (cv : Value), s13 = .int .i64 0 ∧ t ≤ 3 ∧ gk = 3 - t ∧ Ctx wr p g base L6 0 cv (2 * t) (C6w.take t) (-1) none 0 ∧ Enc w eb base wr)
  case atStart => exact ⟨0, cv, rfl, by omega, rfl, C2.out, EN6.out⟩
  case round =>
    clear C2 EN6
    obtain ⟨t, cv1, rfl, ht, hgk, hc, hen⟩ := hrel
    obtain ⟨gM, rfl⟩ : ∃ g, g = gk := ⟨_, rfl⟩
    have HGK := Lib.hid hgk; clear hgk
    obtain ⟨w7, rfl⟩ : ∃ w7 : World, w7 = wr := ⟨_, rfl⟩
    obtain ⟨c7, r7⟩ := hc.row
    have C7 := Lib.hid hc; clear hc
    have R7 := Lib.hid r7; clear r7
    have EN7 := Lib.hid hen; clear hen
    go_wp2_with fail
    refine (moreC w7 p 6 0 (2 * t) (some ⟨g, 0, none⟩) c7 _ R7.out rfl rfl rfl (by omega) (by omega)).mono ?_
    rintro e w8 ⟨rfl, nq, rfl⟩
    have C8 := Lib.hid (C7.out.dn nq)
    have EN8 := Lib.hid (EN7.out.dn nq)
    clear C7 EN7 R7
    generalize w7.drewN nq = w8 at C8 EN8 ⊢
    by_cases ht3 : t < 3
    · rw [decide_eq_true (show 2 * t < 6 - 0 by omega)]
      have ce := EN8.out.cell
      go_wp2_with fail
      refine (step6 w8 p g base cv1 t ht3 C8.out EN8.out.lt.2.2).mono ?_
      rintro e w9 ⟨rfl, cv', hc9, hb9⟩
      have C9 := Lib.hid hc9
      have EN9 := Lib.hid (EN8.out.but hb9 C8.out.ge)
      obtain ⟨c9, r9⟩ := hc9.row
      have R9 := Lib.hid r9
      clear hc9 hb9 C8 EN8 r9 ce
      go_wp2_with fail
      refine (newEncC w9 p _ (-1) R9.out rfl).mono ?_
      rintro e w' ⟨rfl, hw⟩
      obtain rfl := hw
      go_wp2_with fail
      go_roundg (3 - (t + 1))
      case rel => exact ⟨t + 1, cv', rfl, by omega, rfl, C9.out, EN9.out⟩
      case measure => rw [HGK.out]; omega
    · obtain rfl : t = 3 := by omega
      rw [decide_eq_false (show ¬ 2 * 3 < 6 - 0 by omega)]
      have hcv : ∃ gc cc, cv1 = .slice (some ⟨gc, 0, none⟩) 3 cc := by
        rcases C8.out.own.shape with ⟨_, h0⟩ | ⟨gc, cc, h1, _⟩
        · simp at h0
        · exact ⟨gc, cc, h1⟩
      obtain ⟨gc, cc, rfl⟩ := hcv
      obtain ⟨c8, r8⟩ := C8.out.row
      have R8 := Lib.hid r8; clear r8
      go_wp2_with fail
      refine (cwCountC w8 p _ (some ⟨gc, 0, none⟩) 3 cc R8.out rfl).mono ?_
      rintro e w' ⟨rfl, hw⟩
      obtain rfl := hw
      go_wp2_with fail
      refine (updAll w8 p g base L6 0 _ 6 C6w (-1) 0 0 C8.out (by decide) (by decide) (by decide) (fun j hj => absurd hj (Nat.not_lt_zero _))).mono ?_
      rintro e w9 ⟨rfl, b, hc9, hrow, hb0, hbut⟩
      have C9 := Lib.hid hc9
      have EN9 := Lib.hid (EN8.out.but hbut (fun k h => by rw [h]; exact C8.out.pb.1))
      have SR := Lib.hid (show SiR w9 b false 3 5 8 8 1 3 5 from hrow)
      obtain ⟨c9, r9⟩ := hc9.row
      have R9 := Lib.hid r9
      clear hc9 hbut hrow hb0 C8 EN8 R8 r9
      go_wp2_with fail
      refine (getSymC w9 p _ (some ⟨b, 0, none⟩) R9.out rfl).mono ?_
      rintro e w' ⟨rfl, hw⟩
      obtain rfl := hw
      go_wp2_with fail
      refine (capC w9 b false 3 5 8 8 1 3 5 SR.out).mono ?_
      rintro e w' ⟨rfl, rfl⟩
      go_wp2_with fail
      refine (getCwC w' p _ (some ⟨gc, 0, none⟩) 3 cc R9.out rfl).mono ?_
      rintro e w9 ⟨rfl, hw⟩
      obtain rfl := hw
      go_wp2_with fail
      go_loopw [16] (fun s16 wr => s16 = .slice (some ⟨gc, 0, none⟩) 3 cc ∧ Ctx wr p g base L6 0 (.slice (some ⟨gc, 0, none⟩) 3 cc) 6 C6w (-1) (some ⟨b, 0, none⟩) 0 ∧ Enc w eb base wr) (fun _ _ => 0)
      case atStart => exact ⟨rfl, C9.out, EN9.out⟩
      case round =>
        clear C9 EN9 R9 SR
        obtain ⟨rfl, hc, hen⟩ := hrel
        obtain ⟨c9, r9⟩ := hc.row
        have f4 := r9.frozen 4
        have c4 : wr.cell? ⟨p, 4, none⟩ = some (.slice (some ⟨gc, 0, none⟩) 3 cc) := r9.cell (i := 4) (by omega)
        have R10 := Lib.hid ((r9.set 4 (.slice (some ⟨gc, 0, none⟩) 3 cc)).congr (g := cxR g c9 L6.length 0 (.slice (some ⟨gc, 0, none⟩) 3 cc) 6 (-1) (some ⟨b, 0, none⟩) 0) (fun i _ => by
          unfold cxR
          by_cases h : i = 4 <;> simp [h]))
        have bt : But (· = p) wr (wr.setCell ⟨p, 4, none⟩ (.slice (some ⟨gc, 0, none⟩) 3 cc)) := (But.refl (· = p) wr).thenSet (a := ⟨p, 4, none⟩) (.inl rfl) _
        have EN10 := Lib.hid (hen.but bt (fun k h => by rw [h]; exact hc.pb.1))
        have O10 := Lib.hid (hc.own.keep bt (fun k hk e => hc.ne.2.1 (by rw [hk, e])))
        clear hc hen bt r9
        go_wp2_with fail
        refine (getCwC _ p _ (some ⟨gc, 0, none⟩) 3 cc R10.out rfl).mono ?_
        rintro e w11 ⟨rfl, hw⟩
        obtain rfl := hw
        go_wp2
        go_returns
        exact ⟨_, rfl, O10.out.base EN10.out.lt.2.1, EN10.out.bel⟩
end Go.Proofs.YtcnallabiffemaaGreatDoor
namespace Go.Proofs.YtcnallabiffemaaGreatDoor
open Go.RowKit (wrap32 wrap64 intOf Hid Below)
open Zx

theorem mkI (n : Nat) (hn : n ≤ 1000000) (w : World) : (Instr.makeSlice 22 (.int .i64 (n : Int)) (.int .i64 (n : Int))).run Tryz.prog w = .ok (.slice (some ⟨w.heap.size, 0, none⟩) n n) (w.alloc (.cells (madeCells #[.int .i64 0] n) 3)) :=
  run_make_row' (P := Tryz.prog) 22 3 (.int .i64 0) 8 Tryz.underlying22 info3 rfl .i64 .i64 n (by omega) (by omega) w

/-- the tables of logarithms and powers -/
structure Tabs (w : World) (lb eb : Nat) : Prop where
  lg : w.rowIs lb 3 256 (fun j => .int .i64 (lgt j))
  ex : w.rowIs eb 3 255 (fun j => .int .i64 (ex j))
set_option maxRecDepth 100000 in
set_option maxHeartbeats 4000000 in
theorem tabsC (w : World) : Calls Tryz.prog 200 #[] w fun e w' => e = .returned (.tuple #[.slice (some ⟨w.heap.size, 0, none⟩) 256 256, .slice (some ⟨w.heap.size + 1, 0, none⟩) 255 255]) ∧ Tabs w' w.heap.size (w.heap.size + 1) ∧ Below w.heap.size w w' := by
  have m1 := mkI 256 (by decide)
  have m2 := mkI 255 (by decide)
  rw [show ((256 : Nat) : Int) = 256 from rfl] at m1
  rw [show ((255 : Nat) : Int) = 255 from rfl] at m2
  go_enter Tryz.func200, Tryz.ntmps200
  go_wp2_with fail
  go_loopw [2, 3] (fun s2 s3 wr => ∃ k : Nat, k ≤ 255 ∧ s3 = .int .i64 k ∧ s2 = .int .i64 (ex k) ∧ wr.rowIs w.heap.size 3 256 (fun j => if j ≠ 0 ∧ lg j < k then .int .i64 (lg j) else .int .i64 0) ∧ wr.rowIs (w.heap.size + 1) 3 255 (fun j => if j < k then .int .i64 (ex j) else .int .i64 0) ∧ Below w.heap.size w wr) (fun _ s3 _ => 255 - (intOf s3).toNat)
  case atStart =>
    have r0 := World.rowIs_made w (.int .i64 0) 256 3
    have r1 := World.rowIs_made (w.alloc (.cells (madeCells #[.int .i64 0] 256) 3)) (.int .i64 0) 255 3
    rw [World.size_alloc] at r1
    exact ⟨0, by omega, rfl, rfl, (r0.alloc _).congr fun i _ => by rw [if_neg (fun h => Nat.not_lt_zero _ h.2)], r1.congr fun i _ => by rw [if_neg (Nat.not_lt_zero _)], ((Below.refl _ _).alloc (Nat.le_refl _) _).alloc (by rw [World.size_alloc]; omega) _⟩
  case round =>
    clear m1 m2
    obtain ⟨k, hk, rfl, rfl, h0, h1, hb⟩ := hrel
    have R0 := Lib.hid h0; clear h0
    have R1 := Lib.hid h1; clear h1
    have HB := Lib.hid hb; clear hb
    have xl := ex_lt k
    by_cases hlt : k < 255
    · have gc := R1.out.cell hlt
      have gf := R1.out.frozen k
      have R1b := Lib.hid (R1.out.set k (.int .i64 (ex k)))
      have R0b := Lib.hid (R0.out.setOther (a := ⟨w.heap.size + 1, k, none⟩) (by show _ ≠ _ + 1; omega) (.int .i64 (ex k)))
      obtain ⟨w2, hw2⟩ : ∃ w2, wr.setCell ⟨w.heap.size + 1, k, none⟩ (.int .i64 (ex k)) = w2 := ⟨_, rfl⟩
      have hz2 : w2.heap.size = wr.heap.size := by rw [← hw2]; exact World.size_setCell _ _ _
      have gd := R0b.out.cell (i := ex k) xl
      have ge := R0b.out.frozen (ex k)
      have hrow : ∀ j, j < 256 → (if j = ex k then Value.int .i64 k else if j ≠ 0 ∧ lg j < k then .int .i64 (lg j) else .int .i64 0) = (if j ≠ 0 ∧ lg j < k + 1 then .int .i64 (lg j) else .int .i64 0) := by
        intro j hj
        by_cases h : j = ex k
        · subst h
          rw [if_pos rfl, if_pos ⟨ex_ne k, by rw [lg_ex_lt k hlt]; omega⟩, lg_ex_lt k hlt]
        · rw [if_neg h]
          by_cases h2 : j ≠ 0 ∧ lg j < k
          · rw [if_pos h2, if_pos ⟨h2.1, by omega⟩]
          · rw [if_neg h2, if_neg]
            rintro ⟨h3, h4⟩
            have : lg j = k := by
              have : ¬ lg j < k := fun h5 => h2 ⟨h3, h5⟩
              omega
            exact h (by rw [← this, ex_lg j hj h3])
      have hrel : ∀ (v : Nat), v = ex (k + 1) → ∃ k' : Nat, k' ≤ 255 ∧ Value.int .i64 ((k : Int) + 1) = .int .i64 k' ∧ Value.int .i64 v = .int .i64 (ex k') ∧ ((wr.setCell ⟨w.heap.size + 1, k, none⟩ (.int .i64 (ex k))).setCell ⟨w.heap.size, ex k, none⟩ (.int .i64 k)).rowIs w.heap.size 3 256 (fun j => if j ≠ 0 ∧ lg j < k' then .int .i64 (lg j) else .int .i64 0) ∧
          ((wr.setCell ⟨w.heap.size + 1, k, none⟩ (.int .i64 (ex k))).setCell ⟨w.heap.size, ex k, none⟩ (.int .i64 k)).rowIs (w.heap.size + 1) 3 255 (fun j => if j < k' then .int .i64 (ex j) else .int .i64 0) ∧ Below w.heap.size w ((wr.setCell ⟨w.heap.size + 1, k, none⟩ (.int .i64 (ex k))).setCell ⟨w.heap.size, ex k, none⟩ (.int .i64 k)) := by
        rintro v rfl
        exact ⟨k + 1, by omega, by go_num, rfl, (R0b.out.set _ _).congr hrow, (R1b.out.setOther (by show _ + 1 ≠ w.heap.size; omega) _).congr (fun i _ => set_if (fun j => Value.int .i64 (ex j)) k i _ trivial), (HB.out.setCell (by show _ ≤ _ + 1; omega) _).setCell (Nat.le_refl _) _⟩
      have REL := Lib.hid hrel; clear hrel hrow
      have es := ex_succ k
      have ES := Lib.hid es; clear es
      clear hw2 hz2 w2
      by_cases hd : 256 ≤ ex k * 2
      · have hx := dbl_ge xl hd
        have g1 : (256 : Int) ≤ (ex k : Int) * 2 := by omega
        go_wp2
        go_roundw
        case rel => exact REL.out _ ES.out.symm
        case measure => simp [intOf]; omega
      · have g1 : ¬ (256 : Int) ≤ (ex k : Int) * 2 := by omega
        have hx := dbl_lo xl (by omega)
        have HX := Lib.hid hx; clear hx
        go_wp2
        go_roundw
        case rel => rw [HX.out]; exact REL.out _ ES.out.symm
        case measure => simp [intOf]; omega
    · obtain rfl : k = 255 := by omega
      go_wp2
      go_ret2
      exact ⟨rfl, ⟨R0.out.congr fun i hi' => by
        by_cases h : i = 0
        · subst h; simp [lgt]
        · rw [if_pos ⟨h, lg_lt i hi' h⟩]; unfold lgt; rw [if_neg h], R1.out.congr fun i hi' => if_pos hi'⟩, HB.out⟩
end Go.Proofs.YtcnallabiffemaaGreatDoor
