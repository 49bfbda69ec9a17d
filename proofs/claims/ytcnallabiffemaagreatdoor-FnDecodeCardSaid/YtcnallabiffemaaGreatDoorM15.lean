import Derived.Maps.Own
import Derived.Maps.OwnOps
import Derived.Maps.OwnSet
import Derived.Test.YtcnallabiffemaaGreatDoorM02
import Derived.Test.YtcnallabiffemaaGreatDoorM04
import Derived.Test.YtcnallabiffemaaGreatDoorM14
/- Part of the proof that a Data Matrix symbol of a text, damaged at most to half of its check codewords in each block, is decoded to the text (FnDecode): texts C4 X6 C5 Na Nb Bm. -/
set_option linter.unusedVariables false
set_option linter.unusedSimpArgs false
namespace Go.Proofs.YtcnallabiffemaaGreatDoor
open Go.RowKit (wrap32 wrap64 intOf Hid Below)
open Go.Maps (Keyed)
open Zx

theorem key3 : Keyed Tryz.prog 3 := Go.Maps.int_keyed Tryz.underlying3
theorem zero4 (w : World) : (zeroValue 4).run Tryz.prog w = .ok (.bool false) w := by kernel_rfl
theorem key_nat (p : Nat) (h : p ≤ 100000) : keyOf Tryz.prog 3 (num p) = some (.int .i64 p) := Go.Maps.keyOf_int_mk Tryz.underlying3 (by simp [Lit.wf, IntKind.min, IntKind.max, IntKind.signed, IntKind.bits]; omega)
theorem boolInv {P : Program} {e : TypeId} (he : P.underlying e = some .bool) {v : Value} {z : DataW Unit × List MemPlace} (h : plainElem P e v = some z) : ∃ x, v = .bool x := by
  unfold plainElem at h
  rw [he] at h
  cases v <;> simp at h
  exact ⟨_, rfl⟩
/-- what a look-up in a map of bools gives: the same whatever has been drawn -/
theorem lookB {w : World} {b n : Nat} {D : DataW Unit} (h : w.ownsMap Tryz.prog 3 (plainElem Tryz.prog 4) b n D) (p : Nat) (hp : p ≤ 100000) :
    ∃ x, ∀ m, (Instr.lookup 53 (.map (some b)) (.int .i64 (p : Int)) false).run Tryz.prog (w.drewN m) = .ok (.bool x) (w.drewN m) := by
  have one : ∀ m, ∃ x ps, (Instr.lookup 53 (.map (some b)) (.int .i64 (p : Int)) false).run Tryz.prog (w.drewN m) = .ok (.bool x) (w.drewN m) ∧ plainElem (H := Unit) Tryz.prog 4 (.bool x) = some (D.atKey (.int .i64 p) (.lit (.bool false)), ps) := fun m => by
    have hm : (w.drewN m).ownsMap Tryz.prog 3 (plainElem Tryz.prog 4) b n D := h
    obtain ⟨v, ps, hrun, hv⟩ := hm.lookup key3 Tryz.underlying53 (zero4 _) (plainElem_bool Tryz.underlying4 false) (key_nat p hp)
    obtain ⟨x, rfl⟩ := boolInv Tryz.underlying4 hv
    exact ⟨x, ps, hrun, hv⟩
  obtain ⟨x, ps, _, hx⟩ := one 0
  refine ⟨x, fun m => ?_⟩
  obtain ⟨y, ps', hy, hv⟩ := one m
  rw [plainElem_bool Tryz.underlying4] at hx hv
  have e1 : (DataW.lit (.bool x) : DataW Unit) = .lit (.bool y) := (congrArg Prod.fst (Option.some.inj hx)).trans (congrArg Prod.fst (Option.some.inj hv)).symm
  cases e1
  exact hy
theorem RdI.open_ {w : World} {v : Value} {l : List Int} (h : RdI w v l) : ∃ a c, v = .slice a l.length c ∧ ∀ (j : Nat) (x : Int), l[j]? = some x → ∃ b o, a = some ⟨b, o, none⟩ ∧ b < w.heap.size ∧ w.cell? ⟨b, o + j, none⟩ = some (.int .i64 x) := by
  rcases h with ⟨rfl, a, c, rfl⟩ | ⟨h1, b, o, c, rfl, h3, h4⟩
  · exact ⟨a, c, rfl, fun j x hx => by simp at hx⟩
  · exact ⟨_, c, rfl, fun j x hx => ⟨b, o, rfl, h3, h4 j x hx⟩⟩
/-- a place from a number -/
theorem placeOf (x : Int) (L : Nat) (hL : 0 < L) : ∃ (m : Int) (q p : Nat), Int.tmod x L = m ∧ m + L = (q : Int) ∧ q % L = p ∧ p < L ∧ q < 2 * L ∧ -(L : Int) < m ∧ m < L := by
  have h3 := Int.lt_tmod_of_pos x (show (0 : Int) < L by omega)
  have h4 := Int.tmod_lt_of_pos x (show (0 : Int) < L by omega)
  refine ⟨_, (Int.tmod x L + L).toNat, _, rfl, by omega, rfl, Nat.mod_lt _ hL, by omega, by omega, by omega⟩
/-- the last eight bits of a number are of the field -/
theorem patF (x : Int) : ∃ a : F, x % 256 = (a.v : Int) := ⟨⟨(x % 256).toNat, by omega⟩, by show x % 256 = (((x % 256).toNat : Nat) : Int); omega⟩

def HurtTo (w : World) (W : List F) (B n : Nat) (e : Ending) (w' : World) : Prop := ∃ (v : Value) (out : List F), e = .returned v ∧ Ig w w' v (vs out) ∧ out.length = W.length ∧ ∀ b, b < B → 2 * (er (blk out B b) (blk W B b)).length ≤ n

set_option maxRecDepth 100000 in
set_option maxHeartbeats 8000000 in
theorem damageC (w : World) (s : Sym) (hf : SymFine s) (vo vh vp : Value) (W : List F) (hits pats : List Int) (hW : Rd w vo (vs W)) (hlen : W.length = s.data + s.check) (hh : RdI w vh hits) (hp : RdI w vp pats) (hI : ∀ x ∈ hits, I64 x) (hIp : ∀ x ∈ pats, I64 x) (hhl : hits.length ≤ 3000) (hpl : pats.length ≤ 2147483647) :
    Calls Tryz.prog 10 #[sv s, vo, vh, vp] w (HurtTo w W s.blocks s.n) := by
  obtain ⟨gd, cd, rfl, hgd, hdc⟩ := hW
  obtain ⟨ah, ch, rfl, hHit⟩ := hh.open_
  obtain ⟨ap, cp, rfl, hPat⟩ := hp.open_
  have HHIT := Lib.hid hHit; clear hHit hh
  have HPAT := Lib.hid hPat; clear hPat hp
  have hL : (vs W).length = W.length := List.length_map _
  rw [hL]
  have hdk := hf.dk
  have hcn := hf.cn
  have hb0 := hf.b0
  have hn0 := hf.n0
  have hk0 := hf.k0
  have hdcl := hf.dc
  unfold sv
  obtain ⟨B, hB⟩ : ∃ B, s.blocks = B := ⟨_, rfl⟩
  obtain ⟨n, hn⟩ : ∃ n, s.n = n := ⟨_, rfl⟩
  obtain ⟨k, hk⟩ : ∃ k, s.k = k := ⟨_, rfl⟩
  obtain ⟨Ck, hCk⟩ : ∃ c, s.check = c := ⟨_, rfl⟩
  obtain ⟨D, hD⟩ : ∃ D, s.data = D := ⟨_, rfl⟩
  obtain ⟨L, hLL⟩ : ∃ L, W.length = L := ⟨_, rfl⟩
  simp only [hB, hn, hk, hCk, hD, hLL] at hdk hcn hb0 hn0 hk0 hdcl hlen ⊢
  have HDC : Hid (∀ j u, ((vs W).map num)[j]? = some u → w.cell? ⟨gd, j, none⟩ = some u) := Lib.hid hdc
  clear hdc hL hB hn hk hCk hD hf
  have HLL := Lib.hid hLL; clear hLL
  have DK := Lib.hid hdk; clear hdk
  have CN := Lib.hid hcn; clear hcn
  obtain ⟨Hn, hHn⟩ : ∃ H, hits.length = H := ⟨_, rfl⟩
  obtain ⟨Pn, hPn⟩ : ∃ P, pats.length = P := ⟨_, rfl⟩
  rw [hHn] at hhl ⊢
  rw [hPn] at hpl ⊢
  have HHN := Lib.hid hHn; clear hHn
  have HPN := Lib.hid hPn; clear hPn
  have HI := Lib.hid hI; clear hI
  have HIP := Lib.hid hIp; clear hIp
  obtain ⟨w1, hw1⟩ : ∃ w1, w.alloc (.cells #[num s.rows, num s.cols, num s.down, num s.across, num D, num Ck, num B] 27) = w1 := ⟨_, rfl⟩
  have cb : ∀ i, w1.cell? ⟨w.heap.size, i, none⟩ = (#[num s.rows, num s.cols, num s.down, num s.across, num D, num Ck, num B])[i]? := fun i => by rw [← hw1]; exact World.cell?_alloc_new w _ _ i
  have z1 : Hid (w1.heap.size = w.heap.size + 1 ∧ Below w.heap.size w w1) := Lib.hid (by rw [← hw1]; exact ⟨World.size_alloc _ _, (Below.refl _ _).alloc (Nat.le_refl _) _⟩)
  have c4 := cb 4
  have c5 := cb 5
  have c6 := cb 6
  simp only [List.getElem?_toArray, List.getElem?_cons_zero, List.getElem?_cons_succ] at c4 c5 c6
  have C4 := Lib.hid c4; clear c4
  have C5 := Lib.hid c5; clear c5
  have C6 := Lib.hid c6; clear c6 cb
  have hmk := run_make_row' (P := Tryz.prog) 22 3 (.int .i64 0) 8 Tryz.underlying22 info3 rfl .i64 .i64 B (by omega) (by omega)
  have hmm := @Go.RowKit.run_makeMap Tryz.prog
  have l0 := Lib.hid (Ig.lit0 (Below.refl w1.heap.size w1))
  have hc2 : ∀ (j : Nat) (u : Value), ((vs W).map num)[j]? = some u → (w1.alloc (.cells #[] 3)).cell? ((⟨gd, 0, none⟩ : Addr).add j) = some u := fun j u hu => by
    rw [addr_add, Nat.zero_add]
    exact (((z1.out.2.trans ((Below.refl w1.heap.size w1).alloc (Nat.le_refl _) (.cells #[] 3)|>.mono (by rw [z1.out.1]; omega)))).cell (p := ⟨gd, j, none⟩) hgd).trans (HDC.out j u hu)
  have HC2 := Lib.hid hc2; clear hc2
  have hbox : w.heap.size < w1.heap.size := by rw [z1.out.1]; exact Nat.lt_succ_self _
  have hL0 : 0 < L := by
    have h1 := CN.out
    have h2 := Nat.mul_pos (show 0 < n by omega) hb0.1
    omega
  have hvn : vs W ≠ [] := vs_ne (by rw [HLL.out]; exact hL0)
  go_enter Tryz.func10, Tryz.ntmps10
  go_wp2_with ((with_reducible show wpList _ _ _ (Oper.mk (some 18) _ _ _ _ _ :: _) _ _); refine wpList_appV rfl (.tmp 16) (.tmp 17) 22 3 rfl Tryz.underlying22 (.int .i64 0) 8 infoI rfl (by decide) w1.heap.size (.slice (some ⟨w1.heap.size, 0, none⟩) 0 0) (([] : List Nat).map num) rfl l0.out.own ⟨gd, 0, none⟩ L cd ((vs W).map num) rfl (by rw [List.length_map, List.length_map, HLL.out]) HC2.out (num_one _) (by simp; omega) (l0.out.bel.size) ?_; intro x w2 H; have I2 : Hid (Ig w1 w2 x (vs W)) := Lib.hid (Ig.appL l0.out H.out); clear H; have e6 := (I2.out.bel.cell (p := ⟨w.heap.size, 6, none⟩) hbox).trans C6.out)
  clear e6 hmk hmm hw1 l0 HC2
  obtain ⟨g, cap, rfl, _, _⟩ := I2.out.rd hvn
  rw [List.length_map, HLL.out] at I2 ⊢
  have hgw := (I2.out.own.lt (k := g) rfl)
  have mk0 := Lib.hid (World.rowIs_made w2 (.int .i64 0) B 3)
  obtain ⟨hb, hhb⟩ : ∃ hb, w2.heap.size = hb := ⟨_, rfl⟩
  rw [hhb] at mk0 hgw ⊢
  have HHB := Lib.hid hhb; clear hhb
  have wz : ((w2.alloc (.cells (madeCells #[.int .i64 0] B) 3)).alloc (.map #[] 0)).heap.size = hb + 2 := by rw [World.size_alloc, World.size_alloc, HHB.out]
  have o0 : Hid (((w2.alloc (.cells (madeCells #[.int .i64 0] B) 3)).alloc (.map #[] 0)).ownsMap Tryz.prog 3 (plainElem (H := Unit) Tryz.prog 4) (hb + 1) 0 (.map [])) := Lib.hid (by
    have := World.ownsMap_made (H := Unit) (w2.alloc (.cells (madeCells #[.int .i64 0] B) 3)) Tryz.prog 3 (plainElem Tryz.prog 4)
    rw [World.size_alloc, HHB.out] at this
    exact this)
  have bb : Below w2.heap.size w2 ((w2.alloc (.cells (madeCells #[.int .i64 0] B) 3)).alloc (.map #[] 0)) := ((Below.refl _ _).alloc (Nat.le_refl _) _).alloc (by rw [World.size_alloc]; omega) _
  have I3 := Lib.hid (I2.out.below bb)
  have mk1 : Hid (((w2.alloc (.cells (madeCells #[.int .i64 0] B) 3)).alloc (.map #[] 0)).rowIs hb 3 B (fun b => num ((fun _ => 0) b))) := Lib.hid (rowIs_below (mk0.out.congr fun i _ => rfl) ((Below.refl _ _).alloc (Nat.le_refl _) _) (by rw [World.size_alloc, HHB.out]; omega))
  clear mk0 bb wz
  obtain ⟨mb, hmb⟩ : ∃ mb, hb + 1 = mb := ⟨_, rfl⟩
  rw [hmb] at o0 ⊢
  have hx12 : w.heap.size + 1 ≤ g ∧ g < hb ∧ hb < mb := by have := z1.out.1; omega
  have HX := Lib.hid hx12; clear hx12 hmb hgw I2
  go_loopw [25] (fun s25 wr => ∃ (i : Nat) (out : List F) (hit : Nat → Nat) (D0 : DataW Unit), s25 = .int .i64 i ∧ i ≤ Hn ∧ Ig w1 wr (.slice (some ⟨g, 0, none⟩) L cap) (vs out) ∧ wr.rowIs hb 3 B (fun b => num (hit b)) ∧ wr.ownsMap Tryz.prog 3 (plainElem Tryz.prog 4) mb i D0 ∧ Hurt W out B hit ∧ ∀ b, b < B → 2 * hit b ≤ n) (fun s25 _ => Hn - (intOf s25).toNat)
  case atStart => exact ⟨0, W, _, _, rfl, Nat.zero_le _, I3.out, mk1.out, o0.out, Hurt.refl _ _, fun b _ => Nat.zero_le _⟩
  case round =>
    clear o0 I3 mk1
    obtain ⟨i, out, hit, D0, rfl, hi_, hig, hrow, hown, hhurt, hhalf⟩ := hrel
    obtain ⟨w3, rfl⟩ : ∃ w3 : World, w3 = wr := ⟨_, rfl⟩
    by_cases hiH : i < Hn
    · obtain ⟨xh, hxh⟩ : ∃ xh, hits[i]? = some xh := ⟨_, List.getElem?_eq_getElem (by rw [HHN.out]; exact hiH)⟩
      have hx64 := HI.out xh (List.mem_of_getElem? hxh)
      obtain ⟨bh, oh, rfl, hbh, chit⟩ := HHIT.out i xh hxh
      clear hxh
      obtain ⟨m, q, p, f1, f2, f3, f4, f5, f6, f7⟩ := placeOf xh L hL0
      obtain ⟨b, hbb⟩ : ∃ b, p % B = b := ⟨_, rfl⟩
      have hbB : b < B := by rw [← hbb]; exact Nat.mod_lt _ hb0.1
      have e4 := (hig.bel.cell (p := ⟨w.heap.size, 4, none⟩) hbox).trans C4.out
      have e5 := (hig.bel.cell (p := ⟨w.heap.size, 5, none⟩) hbox).trans C5.out
      have e6 := (hig.bel.cell (p := ⟨w.heap.size, 6, none⟩) hbox).trans C6.out
      have c1 := (hig.bel.cell (p := ⟨bh, oh + i, none⟩) (Nat.lt_trans hbh hbox)).trans ((z1.out.2.cell (p := ⟨bh, oh + i, none⟩) hbh).trans chit)
      clear chit
      have g1 : (q : Int).tmod (L : Int) = (p : Int) := by rw [← f3]; rfl
      have g1' : (q : Int) % (L : Int) = (p : Int) := by rw [← f3]; rfl
      have g2 : (p : Int).tmod (B : Int) = (b : Int) := by rw [← hbb]; rfl
      have g2' : (p : Int) % (B : Int) = (b : Int) := by rw [← hbb]; rfl
      have hL0' : ¬ L = 0 := by omega
      have hB0' : ¬ B = 0 := by omega
      have hL2 : L ≤ 1800 := by omega
      have hI1 := hx64.1
      have hI2 := hx64.2
      have f6' : -2000 < m := by omega
      have f7' : m < 2000 := by omega
      clear f3 hx64
      have IG := Lib.hid hig; clear hig
      have ROW := Lib.hid hrow; clear hrow
      have OWN := Lib.hid hown; clear hown
      have HURT := Lib.hid hhurt; clear hhurt
      have HALF := Lib.hid hhalf; clear hhalf
      have HBB := Lib.hid hbb; clear hbb
      have HLEN := Lib.hid hlen; clear hlen
      have F2 := Lib.hid f2
      go_upto_if 47 with fail
      go_cut [15] from 48 to 54 (fun s15 wx => s15 = .int .i64 b ∧ wx = w3)
      case first =>
        by_cases hpd : D ≤ p
        · obtain ⟨r, hr⟩ : ∃ r, p = D + r := ⟨p - D, by omega⟩
          have r1 : r % B = b := by
            rw [← HBB.out, hr, DK.out, Nat.mul_comm, Nat.mul_add_mod]
          have r2 : (p : Int) - (D : Int) = (r : Int) := by omega
          have r3 : (r : Int).tmod (B : Int) = (b : Int) := by rw [← r1]; rfl
          have r4 : (r : Int) % (B : Int) = (b : Int) := by rw [← r1]; rfl
          have r5 : (D : Int) + (r : Int) - (D : Int) = (r : Int) := by omega
          clear r1
          go_wp2
          go_meet
          exact ⟨rfl, rfl⟩
        · go_wp2
          go_meet
          exact ⟨rfl, rfl⟩
      obtain ⟨rfl, hwc⟩ := hcut
      rw [hwc]; clear hwc wc c1 e4 g1 g1' g2 g2'
      apply_assumption
      obtain ⟨y, hy⟩ := lookB OWN.out p (by omega)
      have hn2 : 0 ≤ n / 2 ∧ n / 2 < 100 := by omega
      have d1 : (Ck : Int).tdiv (B : Int) = (n : Int) := by
        have h1 : Ck / B = n := by rw [CN.out]; exact Nat.mul_div_cancel _ hb0.1
        rw [← h1]; rfl
      have d2 : (Ck : Int) / (B : Int) = (n : Int) := by rw [← d1]; rfl
      have chv := ROW.out.cell hbB
      have hle := HALF.out b hbB
      obtain ⟨hv, hhv⟩ : ∃ hv, hit b = hv := ⟨_, rfl⟩
      rw [hhv] at chv hle
      have HHV := Lib.hid hhv; clear hhv
      go_upto_region 11 with fail
      go_cut [76] from 55 to 76 (fun s76 wx => ∃ z : Bool, s76 = .bool z ∧ (z = false → i < Pn ∧ 2 * hv + 2 ≤ n) ∧ ∃ d, wx = w3.drewN d)
      case first =>
        by_cases hiP : Pn ≤ i
        · go_quiet (fail)
          go_wp2
          go_meet
          exact ⟨true, rfl, fun h => Bool.noConfusion h, nq, rfl⟩
        · cases y with
          | true =>
            go_quiet (fail)
            go_wp2
            go_meet
            exact ⟨true, rfl, fun h => Bool.noConfusion h, nq, rfl⟩
          | false =>
            go_quiet (fail)
            go_wp2
            go_meet
            exact ⟨_, rfl, fun h => ⟨by omega, by have := of_decide_eq_false h; omega⟩, nq, rfl⟩
      obtain ⟨z, rfl, hz, dd, hwc⟩ := hcut
      rw [hwc]; clear hwc wc e5 e6 hy chv d1 d2
      apply_assumption
      cases z with
      | true =>
        go_wp2
        go_roundw
        case rel => exact ⟨i + 1, out, hit, D0, by go_num, hiH, IG.out.dn dd, ROW.out, World.ownsMap.mono OWN.out (Nat.le_succ _), HURT.out, HALF.out⟩
        case measure => simp [intOf]; omega
      | false =>
        obtain ⟨hiP, hh⟩ := hz rfl
        clear hz
        obtain ⟨xp, hxp⟩ : ∃ xp, pats[i]? = some xp := ⟨_, List.getElem?_eq_getElem (by rw [HPN.out]; exact hiP)⟩
        obtain ⟨bp, op, rfl, hbp, cpat⟩ := HPAT.out i xp hxp
        obtain ⟨a, ha⟩ := patF xp
        have hI64 := HIP.out xp (List.mem_of_getElem? hxp)
        have CPAT := Lib.hid cpat; clear cpat hxp
        have OWND := Lib.hid (show (w3.drewN dd).ownsMap Tryz.prog 3 (plainElem Tryz.prog 4) mb i D0 from OWN.out)
        have IGD := Lib.hid (IG.out.dn dd)
        have ROWD := Lib.hid (show (w3.drewN dd).rowIs hb 3 B (fun b => num (hit b)) from ROW.out)
        generalize w3.drewN dd = w4 at OWND IGD ROWD ⊢
        go_wp2_with (at_mapUpdate; refine wpList_mapUpdate_own _ rfl _ _ _ 53 rfl 3 4 key3 Tryz.underlying53 (plainElem (H := Unit) Tryz.prog 4) mb i D0 rfl OWND.out (by unfold maxLen; omega) _ _ _ rfl rfl (key_nat p (by omega)) _ [] (plainElem_bool Tryz.underlying4 true) ?_; intro w5 hown5 hgrow5; have OWN5 := Lib.hid hown5; clear hown5; have bt5 : But (· = mb) w4 w5 := ⟨hgrow5.os, hgrow5.tape, hgrow5.output, hgrow5.size, fun k hk hn => hgrow5.block k hk (fun e => hn (Option.some.inj e))⟩; have BT5 := Lib.hid bt5; clear bt5 hgrow5; have row5 := BT5.out.row ROWD.out (by have := HX.out; omega); have ROW5 := Lib.hid row5; have f5 := row5.frozen b; have c5 := row5.cell hbB; clear row5; rw [HHV.out] at c5)
        clear f5 c5
        have b56 : But (· = hb) w5 (w5.setCell ⟨hb, b, none⟩ (num (hv + 1))) := (But.refl (· = hb) w5).thenSet (a := ⟨hb, b, none⟩) (.inl rfl) _
        have nx := HX.out
        have nz := z1.out.1
        have IG5 : Ig w1 w5 (.slice (some ⟨g, 0, none⟩) L cap) (vs out) := ⟨IGD.out.own.keep BT5.out (fun c hc e => by cases hc; exact absurd (show g = mb from e) (by omega)), IGD.out.bel.trans (BT5.out.below IGD.out.bel.size (fun c hc e => by omega))⟩
        have IG6 : Hid (Ig w1 (w5.setCell ⟨hb, b, none⟩ (num (hv + 1))) (.slice (some ⟨g, 0, none⟩) L cap) (vs out)) := Lib.hid ⟨IG5.own.keep b56 (fun c hc e => by cases hc; exact absurd (show g = hb from e) (by omega)), IG5.bel.trans (b56.below IG5.bel.size (fun c hc e => by omega))⟩
        have OWN6 := Lib.hid (World.ownsMap.setCell OWN5.out (a := ⟨hb, b, none⟩) (by show mb ≠ hb; omega) (num (hv + 1)))
        have ROW6 : Hid ((w5.setCell ⟨hb, b, none⟩ (num (hv + 1))).rowIs hb 3 B (fun c => num (hit c + if p % B = c then 1 else 0))) := Lib.hid ((ROW5.out.set b (num (hv + 1))).congr fun c _ => by
          rw [HBB.out]
          by_cases h : c = b
          · rw [if_pos h, if_pos h.symm, h, HHV.out]
          · rw [if_neg h, if_neg (fun e => h e.symm)]; rfl)
        have CP6 := (IG6.out.bel.cell (p := ⟨bp, op + i, none⟩) (Nat.lt_trans hbp hbox)).trans ((z1.out.2.cell (p := ⟨bp, op + i, none⟩) hbp).trans CPAT.out)
        rw [show Value.int IntKind.i64 ((hv : Int) + 1) = num (hv + 1) from rfl]
        generalize w5.setCell ⟨hb, b, none⟩ (num (hv + 1)) = w6 at IG6 OWN6 ROW6 CP6 ⊢
        clear b56 IG5
        have hol : out.length = L := HURT.out.1.trans HLL.out
        have c6 := IG6.out.at_ p (by rw [hol]; exact f4)
        have fr6 := IG6.out.frz p
        have hand : Hid (bits .and .i64 xp 255 = (a.v : Int)) := Lib.hid ((and255i xp).trans ha)
        clear ha hI64 f1 f2 f6 f7 f6' f7' hI1 hI2
        have IG7 := Lib.hid (IG6.out.set p (hi out p + a).v)
        rw [show (vs out).set p (hi out p + a).v = vs (out.set p (hi out p + a)) from List.map_set.symm] at IG7
        have b67 : But (· = g) w6 (w6.setCell ⟨g, p, none⟩ (num (hi out p + a).v)) := (But.refl (· = g) w6).thenSet (a := ⟨g, p, none⟩) (.inl rfl) _
        have OWN7 := Lib.hid (World.ownsMap.setCell OWN6.out (a := ⟨g, p, none⟩) (by show mb ≠ g; omega) (num (hi out p + a).v))
        have ROW7 := Lib.hid (b67.row ROW6.out (by omega))
        have HURT7 := Lib.hid (HURT.out.step hb0.1 p (hi out p + a))
        clear b67
        generalize hi out p = A at c6 IG7 OWN7 ROW7 HURT7
        refine wp_region_quiet_tail 11 (by kernel_rfl) (by kernel_rfl) ?_
        simp only [List.take_succ_cons, List.take_zero, List.drop_succ_cons, List.drop_zero]
        repeat (first | go_big_quiet_step (fail) | quiet_step (fail))
        refine wpQuiet_nil ?_
        intro _ hw1q
        obtain ⟨nq, hw2q⟩ := hw1q
        subst hw2q
        rw [hand.out, xor_f]
        clear hand
        have HALF7 : Hid (∀ c, c < B → 2 * (hit c + if p % B = c then 1 else 0) ≤ n) := Lib.hid fun c hc => by
          have h1 := HALF.out c hc
          split
          · rename_i h2
            have h3 : hit c = hv := by rw [← h2, HBB.out, HHV.out]
            omega
          · omega
        go_wp2
        go_roundw
        case rel => exact ⟨i + 1, _, _, _, by go_num, hiH, IG7.out.dn nq, ROW7.out, OWN7.out, HURT7.out, HALF7.out⟩
        case measure => simp [intOf]; omega
    · obtain rfl : i = Hn := by omega
      have IG := Lib.hid hig; clear hig
      go_wp2
      go_ret
      exact ⟨_, out, rfl, ⟨IG.out.own.base (by omega), (z1.out.2).trans (IG.out.bel.mono (by omega))⟩, hhurt.1, fun b hb => by have := hhurt.2 b hb; have := hhalf b hb; omega⟩
end Go.Proofs.YtcnallabiffemaaGreatDoor
namespace Go.Proofs.YtcnallabiffemaaGreatDoor
open Go.RowKit (wrap32 wrap64 intOf Hid Below)
open Zx

def WrTo (w : World) (l : List Nat) (e : Ending) (w' : World) : Prop := ∃ v words, e = .returned v ∧ Ig w w' v words ∧ SegOk 0 words l ∧ (∀ x ∈ words, x < 256) ∧ words.length ≤ 5 * l.length ∧ (l ≠ [] → words ≠ [])

/-- what stands after a round -/
structure WrAt (w wr : World) (s : ByteArray) (x : Value) (i : Nat) (words : List Nat) : Prop where
  own : Ig w wr x words
  ok : SegOk 0 words ((chs s).take i)
  lt : ∀ y ∈ words, y < 256
  len : words.length ≤ 5 * i
  ne : i ≠ 0 → words ≠ []

set_option maxRecDepth 100000 in
set_option maxHeartbeats 4000000 in
theorem writtenC (w : World) (s : ByteArray) (cv : Value) (cs : List Int) (hs : s.size ≤ 1000) (h128 : ∀ c ∈ chs s, c < 128) (hcv : RdI w cv cs) (hci : ∀ c ∈ cs, I64 c) (hcl : cs.length ≤ 100) : Calls Tryz.prog 7 #[.string s, cv] w (WrTo w (chs s)) := by
  have H128 := Lib.hid h128; clear h128
  have HCI := Lib.hid hci; clear hci
  have hlc : ∀ w, (Builtin.len_ #[22] 3 #[cv]).run Tryz.prog w = .ok (.int .i64 cs.length) w := fun w => by
    rcases hcv with ⟨h1, ad, cap, h2⟩ | ⟨_, b, o, cap, h2, _⟩
    · rw [h2, h1]; rfl
    · rw [h2]; rfl
  have HCV := Lib.hid hcv; clear hcv
  have HLC := Lib.hid hlc; clear hlc
  go_enter Tryz.func7, Tryz.ntmps7
  go_wp2_with fail
  go_loopw [5, 6, 7] (fun s5 s6 s7 wr => ∃ (x : Value) (i k : Nat) (words : List Nat), x = s5 ∧ i ≤ s.size ∧ k ≤ i ∧ s6 = .int .i64 i ∧ s7 = .int .i64 k ∧ WrAt w wr s x i words) (fun _ s6 _ _ => s.size - (intOf s6).toNat)
  case atStart => exact ⟨_, 0, 0, [], rfl, Nat.zero_le _, Nat.le_refl _, rfl, rfl, Ig.nil w, by simpa using SegOk.nil 0, fun y hy => by simp at hy, Nat.le_refl _, fun h => absurd rfl h⟩
  case round =>
    obtain ⟨x, i, k, words, rfl, hi, hk, rfl, rfl, hat⟩ := hrel
    obtain ⟨w1, rfl⟩ : ∃ w1 : World, w1 = wr := ⟨_, rfl⟩
    have HAT := Lib.hid hat; clear hat
    by_cases his : i < s.size
    · have hlc := HLC.out
      go_upto_if 23 with fail
      go_cut [8, 9] from 21 to 40 (fun s8 s9 wx => ∃ md mo : Nat, s8 = .int .i64 md ∧ s9 = .int .i64 mo ∧ md ≤ 5 ∧ 1 ≤ mo ∧ mo ≤ 1000 ∧ (md = 5 → mo ≤ 20) ∧ wx = w1)
      case first =>
        rcases HCV.out with ⟨h1, ad, cap, rfl⟩ | ⟨hne, b, o, cap, rfl, hb, hcells⟩
        · have q := int_bf (a := (0 : Int)) (b := 1) (by decide)
          have hz : (cs.length : Int) = 0 := by rw [h1]; rfl
          go_wp2
          go_meet
          exact ⟨0, s.size, rfl, rfl, by decide, by omega, hs, fun h => absurd h (by decide), rfl⟩
        · have hn0 : 0 < cs.length := List.length_pos_iff.2 hne
          clear hne
          have HC := Lib.hid hcells; clear hcells
          obtain ⟨kk, hkk⟩ : ∃ kk, k % cs.length = kk := ⟨_, rfl⟩
          have hkn : kk < cs.length := by rw [← hkk]; exact Nat.mod_lt _ hn0
          have e1 : (k : Int) % (cs.length : Int) = (kk : Int) := by rw [← hkk]; simp
          have e2 : Int.tmod (k : Int) (cs.length : Int) = (kk : Int) := by rw [← hkk]; rfl
          have hg : cs[kk]? = some (cs.getD kk 0) := by rw [List.getD_eq_getElem?_getD, List.getElem?_eq_getElem hkn]; rfl
          have c0 := (HAT.out.own.bel.cell (p := ⟨b, o + kk, none⟩) hb).trans (HC.out kk _ hg)
          have hcx := HCI.out _ (List.mem_of_getElem? hg)
          obtain ⟨c, hc⟩ : ∃ c, cs.getD kk 0 = c := ⟨_, rfl⟩
          rw [hc] at c0 hcx
          obtain ⟨m, d, e, q, q2, md, mo, t1, t2, t3, t4, t5, t6, t7, t8, t9, r1, r2, r3, r4, r5, r6, r7, r8, r9⟩ := choice c hcx
          have HKK := Lib.hid hkk; clear hkk hg hc hcx t3
          have n0 : ¬ (cs.length : Int) = 0 := by omega
          have t9' : 1 + (q2 : Int) % 20 = (mo : Int) := by omega
          clear t9
          go_wp2
          go_meet
          exact ⟨md, mo, by first | rfl | exact val_int (by omega), by first | rfl | exact val_int (by omega), r1, r2, by omega, fun _ => r3, rfl⟩
      obtain ⟨md, mo, rfl, rfl, hmd, hmo1, hmo2, hmd5, hwc⟩ := hcut
      rw [hwc]; clear hwc wc hlc
      obtain ⟨wl, hwl⟩ : ∃ wl, words.length = wl := ⟨_, rfl⟩
      have hlen : ∀ w, (Builtin.len_ #[22] 3 #[x]).run Tryz.prog w = .ok (.int .i64 wl) w := fun w => by
        rcases HAT.out.own.own.shape with ⟨h1, h2⟩ | ⟨g, cap, h1, _⟩
        · rw [h1, ← hwl, List.map_eq_nil_iff.1 h2]; rfl
        · rw [h1, ← hwl, List.length_map]; rfl
      have hwll : wl ≤ 5000 := by have := HAT.out.len; omega
      have HWL := Lib.hid hwl; clear hwl
      go_upto_region 9 with fail
      go_cut [11, 12] from 41 to 56 (fun s11 s12 wx => ∃ (v : Value) (ws : List Nat) (n2 : Nat), v = s11 ∧ s12 = .int .i64 n2 ∧ i + n2 ≤ s.size ∧ Ig w1 wx v ws ∧ (n2 ≠ 0 → SegOk wl ws (((chs s).drop i).take n2) ∧ (∀ y ∈ ws, y < 256) ∧ ws.length ≤ 2 * n2 + 3 ∧ ws ≠ []))
      case first =>
        have key : ∀ (j : Nat), i < j → j ≤ s.size → j ≤ i + mo → ∀ e w', SegTo1 w1 wl (chs (s.extract i j)) e w' → ∃ (n2 : Nat) (ws : List Nat) (v : Value), e = .returned (.tuple #[v, .int .i64 n2]) ∧ i + n2 ≤ s.size ∧ Ig w1 w' v ws ∧ (n2 ≠ 0 → SegOk wl ws (((chs s).drop i).take n2) ∧ (∀ y ∈ ws, y < 256) ∧ ws.length ≤ 2 * n2 + 3 ∧ ws ≠ []) := by
          intro j h1 h2 h3 e w' ⟨n2, ws, hn2, ⟨v, he, hg⟩, hx⟩
          have hsub := chs_sub s i j
          rw [hsub, List.length_take, List.length_drop, chs_len] at hn2
          refine ⟨n2, ws, v, he, by omega, hg, fun h0 => ?_⟩
          have := hx h0
          rw [hsub, List.take_take, Nat.min_eq_left (by omega)] at this
          exact this
        have hsc : ∀ (j : Nat), i < j → j ≤ s.size → j ≤ i + mo → Calls Tryz.prog 19 #[.string (s.extract i j), .int .i64 md, .int .i64 wl] w1 (SegTo1 w1 wl (chs (s.extract i j))) := by
          intro j h1 h2 h3
          have hz : (s.extract i j).size = j - i := by rw [← chs_len, chs_sub, List.length_take, List.length_drop, chs_len]; omega
          refine segmentC w1 _ md wl hmd (by omega) (by omega) (fun h => by have := hmd5 h; omega) (fun c hc => ?_)
          rw [chs_sub] at hc
          exact H128.out c (List.mem_of_mem_drop (List.mem_of_mem_take hc))
        have KEY := Lib.hid key; clear key
        have HSC := Lib.hid hsc; clear hsc
        by_cases hfit : i + mo < s.size
        · obtain ⟨j, hj⟩ : ∃ j, i + mo = j := ⟨_, rfl⟩
          have e1 : ((i : Int) + (mo : Int)) = (j : Int) := by omega
          have HJ := Lib.hid hj
          rw [hj] at hfit
          have hij : i < j := by omega
          clear hj
          go_wp2_with fail
          refine (HSC.out j hij (Nat.le_of_lt hfit) (by rw [HJ.out]; exact Nat.le_refl _)).mono ?_
          intro e w2 hse
          obtain ⟨n2, ws, v, rfl, h1, h2, h3⟩ := KEY.out j hij (Nat.le_of_lt hfit) (by rw [HJ.out]; exact Nat.le_refl _) e w2 hse
          have H2 := Lib.hid h2; clear h2 hse
          have H3 := Lib.hid h3; clear h3
          go_wp2
          go_meet
          exact ⟨v, ws, n2, rfl, rfl, h1, H2.out, H3.out⟩
        · go_wp2_with fail
          refine (HSC.out s.size his (Nat.le_refl _) (by omega)).mono ?_
          intro e w2 hse
          obtain ⟨n2, ws, v, rfl, h1, h2, h3⟩ := KEY.out s.size his (Nat.le_refl _) (by omega) e w2 hse
          have H2 := Lib.hid h2; clear h2 hse
          have H3 := Lib.hid h3; clear h3
          go_wp2
          go_meet
          exact ⟨v, ws, n2, rfl, rfl, h1, H2.out, H3.out⟩
      obtain ⟨v, ws, n2, rfl, rfl, hn2, hig, hx⟩ := hcut
      clear hlen hmd5 hmo1 hmo2 hmd
      obtain ⟨w2, rfl⟩ : ∃ w2 : World, w2 = wc := ⟨_, rfl⟩
      have G2 := Lib.hid hig; clear hig
      have X2 := Lib.hid hx; clear hx
      go_upto_if 58 with fail
      go_cut [11, 12] from 59 to 67 (fun s11 s12 wx => ∃ (v : Value) (ws : List Nat) (n2 : Nat), v = s11 ∧ s12 = .int .i64 n2 ∧ i + n2 ≤ s.size ∧ 1 ≤ n2 ∧ Ig w1 wx v ws ∧ SegOk wl ws (((chs s).drop i).take n2) ∧ (∀ y ∈ ws, y < 256) ∧ ws.length ≤ 2 * n2 + 3 ∧ ws ≠ [])
      case first =>
        by_cases hn0 : n2 = 0
        · subst hn0
          have hz : (s.extract i (i + 1)).size = 1 := by rw [← chs_len, chs_sub, List.length_take, List.length_drop, chs_len]; omega
          have h8 : ∀ c ∈ chs (s.extract i (i + 1)), c < 128 := fun c hc => by
            rw [chs_sub] at hc
            exact H128.out c (List.mem_of_mem_drop (List.mem_of_mem_take hc))
          have ac := asciiC w2 (s.extract i (i + 1)) (by omega) h8
          rw [hz] at ac
          have AC := Lib.hid ac; clear ac
          have H8 := Lib.hid h8; clear h8
          obtain ⟨j, hj⟩ : ∃ j, i + 1 = j := ⟨_, rfl⟩
          have e1 : ((i : Int) + 1) = (j : Int) := by omega
          have hjs : j ≤ s.size := by omega
          rw [hj] at AC H8 hz
          have HJ := Lib.hid hj; clear hj hn2
          go_wp2_with fail
          refine AC.out.mono ?_
          rintro e w3 ⟨v3, rfl, h2⟩
          have H2 := Lib.hid h2; clear h2
          go_wp2
          go_meet
          have hsub := chs_sub s i j
          have e1 : j - i = 1 := by rw [← HJ.out]; omega
          rw [e1] at hsub
          refine ⟨v3, _, 1, rfl, rfl, by omega, Nat.le_refl _, ⟨H2.out.own.base G2.out.bel.size, G2.out.bel.trans (H2.out.bel.mono G2.out.bel.size)⟩, ?_, pAsc_lt _ H8.out, ?_, pAsc_ne _ (fun h => ?_)⟩
          · rw [← hsub]; exact SegOk.ascii _ _ H8.out
          · have := pAsc_len (chs (s.extract i j)); rw [chs_len, hz] at this; omega
          · have := congrArg List.length h; rw [chs_len, hz] at this; simp at this
        · have q := int_bf (a := (n2 : Int)) (b := 0) (by omega)
          go_wp2
          go_meet
          obtain ⟨a1, a2, a3, a4⟩ := X2.out hn0
          exact ⟨v, ws, n2, rfl, rfl, hn2, by omega, G2.out, a1, a2, a3, a4⟩
      clear X2 G2 hn2
      obtain ⟨v, ws, n2, rfl, rfl, hn2, hn1, hig, hso, hlt, hln, hwne⟩ := hcut
      obtain ⟨w3, rfl⟩ : ∃ w3 : World, w3 = wc := ⟨_, rfl⟩
      have I1 := HAT.out.own.below hig.bel
      obtain ⟨g, cap, rfl, hg, hcells⟩ := hig.rd hwne
      have I1 := Lib.hid I1
      clear hig
      have HSO := Lib.hid hso; clear hso
      have HLT := Lib.hid hlt; clear hlt
      obtain ⟨m, hm⟩ : ∃ m, ws.length = m := ⟨_, rfl⟩
      rw [hm] at hln ⊢
      have HM := Lib.hid hm; clear hm
      have hc2 : ∀ (j : Nat) (u : Value), (ws.map num)[j]? = some u → w3.cell? ((⟨g, 0, none⟩ : Addr).add j) = some u := fun j u hu => by rw [addr_add, Nat.zero_add]; exact hcells j u hu
      have HC := Lib.hid hc2; clear hc2 hcells
      go_wp2_with (at_builtin; refine wpList_appV rfl (.tmp 68) (.tmp 69) 22 3 rfl Tryz.underlying22 (.int .i64 0) 8 infoI rfl (by decide) w.heap.size x (words.map num) rfl I1.out.own ⟨g, 0, none⟩ m cap (ws.map num) rfl (by rw [List.length_map, HM.out]) HC.out (num_one _) (by rw [List.length_map, HWL.out]; omega) (I1.out.bel.size) ?_)
      intro x' w4 H
      have I2 := Lib.hid (Ig.appL I1.out H.out); clear H I1
      go_wp2
      go_roundw
      case rel =>
        refine ⟨x', i + n2, k + 1, words ++ ws, rfl, hn2, by omega, by go_num, by go_num, I2.out, ?_, fun y hy => ?_, ?_, fun _ h => hwne (List.append_eq_nil_iff.1 h).2⟩
        · rw [List.take_add]
          exact HAT.out.ok.append (by rw [Nat.zero_add, HWL.out]; exact HSO.out)
        · rcases List.mem_append.1 hy with h | h
          · exact HAT.out.lt y h
          · exact HLT.out y h
        · have := HAT.out.len
          rw [List.length_append, HM.out]; omega
      case measure => simp [intOf]; omega
    · obtain rfl : i = s.size := by omega
      have hf := HAT.out
      have HF := Lib.hid hf; clear hf
      go_wp2
      go_ret
      refine ⟨x, words, rfl, HF.out.own, ?_, HF.out.lt, by rw [chs_len]; exact HF.out.len, fun h => HF.out.ne (fun h0 => h (List.eq_nil_of_length_eq_zero (by rw [chs_len]; exact h0)))⟩
      have := HF.out.ok
      rwa [List.take_of_length_le (by rw [chs_len]; exact Nat.le_refl _)] at this
end Go.Proofs.YtcnallabiffemaaGreatDoor
namespace Go.Proofs.YtcnallabiffemaaGreatDoor
open Go.RowKit (wrap32 wrap64 intOf Hid Below)
open Zx

def BoolTo (w : World) (p : Prop) (e : Ending) (w' : World) : Prop := ∃ b, e = .returned (.bool b) ∧ (b = true → p) ∧ w = w'
theorem empty_list : (⟨#[]⟩ : ByteArray).toList.isEmpty = true := by kernel_rfl
theorem size_pos_of (s : ByteArray) (h : (!s.toList.isEmpty) = true) : 0 < s.size := by
  refine Nat.pos_of_ne_zero fun h0 => ?_
  obtain ⟨d⟩ := s
  have : d = #[] := Array.eq_empty_of_size_eq_zero h0
  subst this
  rw [empty_list] at h
  exact Bool.noConfusion h
theorem all_chs (s : ByteArray) (h : ∀ j (h : j < s.size), j < s.size → (s[j]).toNat < 128) : ∀ c ∈ chs s, c < 128 := fun c hc => by
  obtain ⟨j, hj, rfl⟩ := List.getElem_of_mem hc
  have hj2 : j < s.size := by rw [← chs_len]; exact hj
  have := h j hj2 hj2
  rw [← chs_get s j hj2, List.getD_eq_getElem?_getD, List.getElem?_eq_getElem hj] at this
  exact this

set_option maxRecDepth 100000 in
theorem plainC (w : World) (s : ByteArray) (hs : s.size ≤ 1000) : Calls Tryz.prog 18 #[.string s] w (BoolTo w ((∀ c ∈ chs s, c < 128) ∧ 0 < s.size)) := by
  go_enter Tryz.func18, Tryz.ntmps18
  go_wp2_with fail
  go_loopw [6] (fun s6 wr => ∃ i : Nat, i ≤ s.size ∧ s6 = .int .i64 i ∧ w = wr ∧ ∀ j (h : j < s.size), j < i → (s[j]).toNat < 128) (fun s6 _ => s.size - (intOf s6).toNat)
  case atStart => exact ⟨0, Nat.zero_le _, rfl, rfl, fun j _ h => absurd h (Nat.not_lt_zero j)⟩
  case round =>
    obtain ⟨i, hi_, rfl, rfl, hall⟩ := hrel
    have HALL := Lib.hid hall; clear hall
    by_cases his : i < s.size
    · obtain ⟨c, hc⟩ : ∃ c, (s[i]).toNat = c := ⟨_, rfl⟩
      by_cases h128 : c < 128
      · have HC := Lib.hid hc
        go_wp2_with fail
        go_roundw
        case rel => exact ⟨i + 1, his, by go_num, trivial, fun j h hj => by
          by_cases h2 : j = i
          · subst h2; rw [HC.out]; exact h128
          · exact HALL.out j h (by omega)⟩
        case measure => simp [intOf]; omega
      · go_wp2_with fail
        go_ret
        exact ⟨false, rfl, fun h => Bool.noConfusion h, rfl⟩
    · obtain rfl : i = s.size := by omega
      go_wp2
      go_ret
      exact ⟨_, rfl, fun h => ⟨all_chs s HALL.out, size_pos_of s h⟩, rfl⟩

set_option maxRecDepth 100000 in
/-- any string -/
theorem fineC (w : World) (s : ByteArray) (hs : s.size ≤ 2147483647) : Calls Tryz.prog 5 #[.string s] w (BoolTo w ((∀ c ∈ chs s, c < 128) ∧ 0 < s.size ∧ s.size ≤ 1000)) := by
  go_enter Tryz.func5, Tryz.ntmps5
  by_cases hl : s.size ≤ 1000
  · have pc := plainC w s hl
    go_wp2_with fail
    refine pc.mono ?_
    rintro e w' ⟨b, rfl, hb, hw⟩
    obtain rfl := hw
    have HB := Lib.hid hb
    clear hb
    cases b with
    | true =>
      go_wp2
      go_ret
      exact ⟨_, rfl, fun _ => ⟨(HB.out trivial).1, (HB.out trivial).2, hl⟩, rfl⟩
    | false =>
      go_wp2
      go_ret
      exact ⟨_, rfl, fun h => Bool.noConfusion h, rfl⟩
  · go_wp2
    go_ret
    exact ⟨_, rfl, fun h => Bool.noConfusion h, rfl⟩
end Go.Proofs.YtcnallabiffemaaGreatDoor
namespace Go.Proofs.YtcnallabiffemaaGreatDoor
open Go.RowKit (wrap32 wrap64 intOf Hid Below)
open Zx

theorem and255n (x : Nat) (h : x < 256) : bits .and .i64 (x : Int) 255 = (x : Int) := and255 ⟨x, h⟩
theorem dbl_ge {x : Nat} (hx : x < 256) (h : 256 ≤ x * 2) : bits .xor .i64 ((x : Int) * 2) 301 = ((dbl x : Nat) : Int) := dbl_hi hx (by omega)

def fldRow (b : Nat) (zs os : Value) : Nat → Value := fun i =>
  if i = 0 then .slice (some ⟨b + 1, 0, none⟩) 256 256 else if i = 1 then .slice (some ⟨b + 2, 0, none⟩) 256 256 else if i = 2 then zs else if i = 3 then os else if i = 4 then .int .i64 256 else if i = 5 then .int .i64 301 else .int .i64 1

/-- a store over a nil pointer leaves the polynomials alone -/
theorem Poly.setNil {w : World} {fb p : Nat} {l : List F} (h : Poly w fb p l) {a : Addr} (ha : w.cell? a = some (.pointer none)) (v : Value) : Poly (w.setCell a v) fb p l := by
  obtain ⟨b, o, c, h1, h2, h3, h4, h4', h5, h6, h7⟩ := h
  have hs : (w.setCell a v).heap.size = w.heap.size := World.size_setCell _ _ _
  have ne : ∀ {q : Addr} {u : Value}, w.cell? q = some u → u ≠ .pointer none → (w.setCell a v).cell? q = some u := fun {q u} hq hu =>
    (World.cell?_setCell_other _ _ _ _ (fun e => by subst e; rw [ha] at hq; cases hq; exact hu rfl)).trans hq
  exact ⟨b, o, c, ne h1 (by intro e; cases e), ne h2 (by intro e; cases e), h3, h4, h4', by rw [hs]; exact h5, by rw [hs]; exact h6, fun i hi' => ne (h7 i hi') (by intro e; cases e)⟩

def box0 : Nat → Value := fun i => if i = 0 then .slice none 0 0 else if i = 1 then .slice none 0 0 else if i = 2 then .pointer none else if i = 3 then .pointer none else if i = 4 then .int .i64 256 else if i = 5 then .int .i64 301 else .int .i64 1

set_option maxRecDepth 100000 in
theorem newFld (w : World) : Calls Tryz.prog 77 #[.int .i64 301, .int .i64 256, .int .i64 1] w fun e w' => ∃ fb, e = .returned (pt fb) ∧ Fld w' fb ∧ w.heap.size ≤ fb ∧ Below w.heap.size w w' := by
  have hmk := run_make_row' (P := Tryz.prog) 22 3 (.int .i64 0) 8 Tryz.underlying22 info3 rfl .i64 .i64 256 (by omega) (by omega)
  have ec : ((256 : Nat) : Int) = 256 := rfl
  rw [ec] at hmk
  go_enter Tryz.func77, Tryz.ntmps77
  go_wp2_with fail
  go_loopw [10, 11] (fun x i wr => ∃ k : Nat, k ≤ 256 ∧ i = .int .i64 k ∧ x = .int .i64 (ex k) ∧ wr.rowIs w.heap.size 224 7 box0 ∧ wr.rowIs (w.heap.size + 1) 3 256 (fun j => if j < k then .int .i64 (ex j) else .int .i64 0) ∧
      wr.rowIs (w.heap.size + 1 + 1) 3 256 (fun _ => .int .i64 0) ∧ Below w.heap.size w wr)
    (fun _ i _ => 256 - (intOf i).toNat)
  case atStart =>
    have r0 := World.rowIs_alloc w #[Value.slice none 0 0, Value.slice none 0 0, Value.pointer none, Value.pointer none, Value.int IntKind.i64 256, Value.int IntKind.i64 301, Value.int IntKind.i64 1] 224 box0 (fun i hi' => by
      match i, hi' with
      | 0, _ => rfl
      | 1, _ => rfl
      | 2, _ => rfl
      | 3, _ => rfl
      | 4, _ => rfl
      | 5, _ => rfl
      | 6, _ => rfl
      | n + 7, h => exact absurd h (by simp))
    refine ⟨0, by omega, rfl, rfl, (r0.alloc _).alloc _, ?_, ?_, ?_⟩
    · have r1 := World.rowIs_made (w.alloc (.cells #[Value.slice none 0 0, Value.slice none 0 0, Value.pointer none, Value.pointer none, Value.int IntKind.i64 256, Value.int IntKind.i64 301, Value.int IntKind.i64 1] 224)) (.int .i64 0) 256 3
      rw [World.size_alloc] at r1
      exact (r1.alloc _).congr fun i _ => by rw [if_neg (Nat.not_lt_zero _)]
    · have r1 := World.rowIs_made ((w.alloc (.cells #[Value.slice none 0 0, Value.slice none 0 0, Value.pointer none, Value.pointer none, Value.int IntKind.i64 256, Value.int IntKind.i64 301, Value.int IntKind.i64 1] 224)).alloc (Obj.cells (madeCells #[Value.int IntKind.i64 0] 256) 3)) (.int .i64 0) 256 3
      rw [World.size_alloc, World.size_alloc] at r1
      exact r1
    · exact (((Below.refl _ _).alloc (Nat.le_refl _) _).alloc (by rw [World.size_alloc]; omega) _).alloc (by rw [World.size_alloc, World.size_alloc]; omega) _
  case round =>
    obtain ⟨k, hk, rfl, rfl, h0, h1, h2, hb⟩ := hrel
    have R0 := Lib.hid h0; clear h0
    have R2 := Lib.hid h2; clear h2
    have R1 := Lib.hid h1; clear h1
    have HB := Lib.hid hb; clear hb
    have xl := ex_lt k
    by_cases hlt : k < 256
    · have gc := R1.out.cell hlt
      have gf := R1.out.frozen k
      have hrel : ∀ (v : Nat), v = ex (k + 1) → ∃ k' : Nat, k' ≤ 256 ∧ Value.int .i64 ((k : Int) + 1) = .int .i64 k' ∧ Value.int .i64 v = .int .i64 (ex k') ∧ (wr.setCell ⟨w.heap.size + 1, k, none⟩ (.int .i64 (ex k))).rowIs w.heap.size 224 7 box0 ∧
          (wr.setCell ⟨w.heap.size + 1, k, none⟩ (.int .i64 (ex k))).rowIs (w.heap.size + 1) 3 256 (fun j => if j < k' then .int .i64 (ex j) else .int .i64 0) ∧
          (wr.setCell ⟨w.heap.size + 1, k, none⟩ (.int .i64 (ex k))).rowIs (w.heap.size + 1 + 1) 3 256 (fun _ => .int .i64 0) ∧ Below w.heap.size w (wr.setCell ⟨w.heap.size + 1, k, none⟩ (.int .i64 (ex k))) := by
        rintro v rfl
        exact ⟨k + 1, by omega, by go_num, rfl, R0.out.setOther (by show _ ≠ _ + 1; omega) _, ((R1.out.set k _).congr fun i _ => set_if (fun j => Value.int .i64 (ex j)) k i _ trivial), R2.out.setOther (by show _ ≠ _ + 1; omega) _, HB.out.setCell (by show _ ≤ _ + 1; omega) _⟩
      have REL := Lib.hid hrel; clear hrel
      have es := ex_succ k
      have al := and255n _ (dbl_lt _ xl)
      have ES := Lib.hid es; clear es
      by_cases hd : 256 ≤ ex k * 2
      · have hx := dbl_ge xl hd
        have g1 : (256 : Int) ≤ (ex k : Int) * 2 := by omega
        go_wp2
        go_roundw
        case rel => exact REL.out _ ES.out.symm
        case measure => simp [intOf]; omega
      · have g1 : ¬ (256 : Int) ≤ (ex k : Int) * 2 := by omega
        have hx := dbl_lo xl (by omega)
        rw [← hx] at al
        have HX := Lib.hid hx; clear hx
        go_wp2
        go_roundw
        case rel => rw [HX.out]; exact REL.out _ ES.out.symm
        case measure => simp [intOf]; omega
    · obtain rfl : k = 256 := by omega
      have R1' : Hid (wr.rowIs (w.heap.size + 1) 3 256 (fun j => .int .i64 (ex j))) := Lib.hid (R1.out.congr fun i hi' => if_pos hi')
      clear R1
      go_wp2_with fail
      go_loopw [12] (fun i wr => ∃ k : Nat, k ≤ 255 ∧ i = .int .i64 k ∧ wr.rowIs w.heap.size 224 7 box0 ∧ wr.rowIs (w.heap.size + 1) 3 256 (fun j => .int .i64 (ex j)) ∧
          wr.rowIs (w.heap.size + 1 + 1) 3 256 (fun j => if j ≠ 0 ∧ lg j < k then .int .i64 (lg j) else .int .i64 0) ∧ Below w.heap.size w wr)
        (fun i _ => 255 - (intOf i).toNat)
      case atStart => exact ⟨0, by omega, rfl, R0.out, R1'.out, R2.out.congr fun i _ => by rw [if_neg (fun h => Nat.not_lt_zero _ h.2)], HB.out⟩
      case round =>
        obtain ⟨k, hk, rfl, h0, h1, h2, hb⟩ := hrel
        have R0 := Lib.hid h0; clear h0
        have R2 := Lib.hid h2; clear h2
        have R1 := Lib.hid h1; clear h1
        have HB := Lib.hid hb; clear hb
        by_cases hlt : k < 255
        · have xl := ex_lt k
          have ga := R1.out.cell (i := k) (by omega)
          have gc := R2.out.cell (i := ex k) xl
          have gf := R2.out.frozen (ex k)
          have hrow : ∀ j, j < 256 → (if j = ex k then Value.int .i64 k else if j ≠ 0 ∧ lg j < k then .int .i64 (lg j) else .int .i64 0) = (if j ≠ 0 ∧ lg j < k + 1 then .int .i64 (lg j) else .int .i64 0) := by
            intro j hj
            by_cases h : j = ex k
            · subst h
              rw [if_pos rfl, if_pos ⟨ex_ne k, by rw [lg_ex_lt k hlt]; omega⟩, lg_ex_lt k hlt]
            · rw [if_neg h]
              by_cases h2 : j ≠ 0 ∧ lg j < k
              · rw [if_pos h2, if_pos ⟨h2.1, by omega⟩]
              · rw [if_neg h2, if_neg]
                rintro ⟨h3, h4⟩
                have : lg j = k := by
                  have : ¬ lg j < k := fun h5 => h2 ⟨h3, h5⟩
                  omega
                exact h (by rw [← this, ex_lg j hj h3])
          have HROW := Lib.hid hrow; clear hrow
          go_wp2
          go_roundw
          case rel => exact ⟨k + 1, by omega, by go_num, R0.out.setOther (by show _ ≠ _ + 1 + 1; omega) _, R1.out.setOther (by show _ + 1 ≠ _ + 1 + 1; omega) _, (R2.out.set _ _).congr HROW.out, HB.out.setCell (by show _ ≤ _ + 1 + 1; omega) _⟩
          case measure => simp [intOf]; omega
        · obtain rfl : k = 255 := by omega
          have b0 := R0.out.cell (i := 0) (by omega)
          have b1 := R0.out.cell (i := 1) (by omega)
          have b2 := R0.out.cell (i := 2) (by omega)
          have b3 := R0.out.cell (i := 3) (by omega)
          have f0 := R0.out.frozen 0
          have f1 := R0.out.frozen 1
          have f2 := R0.out.frozen 2
          have f3 := R0.out.frozen 3
          go_wp2_with fail
          have bd : ∀ i, i < 7 → wr.cell? ⟨w.heap.size, i, none⟩ = some (box0 i) := fun i hi' => R0.out.cell hi'
          obtain ⟨W2, hW2, hb2, hc2, ht2, hl2, hB2⟩ : ∃ W2, (((wr.setCell ⟨w.heap.size, 0, none⟩ (.slice (some ⟨w.heap.size + 1, 0, none⟩) 256 256)).setCell ⟨w.heap.size, 1, none⟩ (.slice (some ⟨w.heap.size + 1 + 1, 0, none⟩) 256 256)).alloc (.cells #[.int .i64 0] 3)) = W2 ∧
              W2.rowIs w.heap.size 224 7 (fun i => if i = 1 then .slice (some ⟨w.heap.size + 1 + 1, 0, none⟩) 256 256 else if i = 0 then .slice (some ⟨w.heap.size + 1, 0, none⟩) 256 256 else box0 i) ∧
              (Cs W2 wr.heap.size 0 [0] ∧ wr.heap.size < W2.heap.size) ∧ W2.rowIs (w.heap.size + 1) 3 256 (fun j => .int .i64 (ex j)) ∧ W2.rowIs (w.heap.size + 1 + 1) 3 256 (fun j => if j ≠ 0 ∧ lg j < 255 then .int .i64 (lg j) else .int .i64 0) ∧ Below w.heap.size w W2 := by
            refine ⟨_, rfl, ((R0.out.set 0 _).set 1 _).alloc _, ⟨?_, ?_⟩, ((R1.out.setOther (by show _ + 1 ≠ w.heap.size; omega) _).setOther (by show _ + 1 ≠ w.heap.size; omega) _).alloc _, ((R2.out.setOther (by show _ + 1 + 1 ≠ w.heap.size; omega) _).setOther (by show _ + 1 + 1 ≠ w.heap.size; omega) _).alloc _,
              ((HB.out.setCell (Nat.le_refl _) _).setCell (Nat.le_refl _) _).alloc ?_ _⟩
            · intro i hi'
              obtain rfl : i = 0 := by simpa using hi'
              have := World.cell?_alloc_new ((wr.setCell ⟨w.heap.size, 0, none⟩ (.slice (some ⟨w.heap.size + 1, 0, none⟩) 256 256)).setCell ⟨w.heap.size, 1, none⟩ (.slice (some ⟨w.heap.size + 1 + 1, 0, none⟩) 256 256)) #[.int .i64 0] 3 0
              rw [World.size_setCell, World.size_setCell] at this
              exact this
            · rw [World.size_alloc, World.size_setCell, World.size_setCell]; omega
            · rw [World.size_setCell, World.size_setCell]; exact HB.out.size
          rw [hW2]
          clear hW2 bd b0 b1 b2 b3 f0 f1 f2 f3 R0 R1 R2
          have hs2 := hB2.size
          refine (newPoly_any W2 w.heap.size wr.heap.size 0 1 [0] (by simp) (by simp) (Nat.le_refl _) hc2.2 hc2.1).mono ?_
          rintro e w3 ⟨p1, rfl, hp1, x3⟩
          rw [nrm_one [0] rfl] at hp1
          have hr3 := rowIs_below hb2 x3 hb2.lt
          have ht3 := rowIs_below ht2 x3 ht2.lt
          have hl3 := rowIs_below hl2 x3 hl2.lt
          have B3 := hB2.trans (x3.mono hs2)
          clear hb2 hc2 ht2 hl2 hB2 x3
          have b2 : w3.cell? ⟨w.heap.size, 2, none⟩ = some (.pointer none) := hr3.cell (by omega)
          have f2 := hr3.frozen 2
          have R3 := Lib.hid hr3; clear hr3
          have T3 := Lib.hid ht3; clear ht3
          have L3 := Lib.hid hl3; clear hl3
          have P1 := Lib.hid hp1; clear hp1
          have HB3 := Lib.hid B3; clear B3
          go_wp2_with fail
          have b3' : w3.cell? ⟨w.heap.size, 3, none⟩ = some (.pointer none) := R3.out.cell (by omega)
          obtain ⟨W4, hW4, hb4, hc4, ht4, hl4, hp4, hB4⟩ : ∃ W4, ((w3.setCell ⟨w.heap.size, 2, none⟩ (pt p1)).alloc (.cells #[.int .i64 1] 3)) = W4 ∧
              W4.rowIs w.heap.size 224 7 (fun i => if i = 2 then pt p1 else if i = 1 then .slice (some ⟨w.heap.size + 1 + 1, 0, none⟩) 256 256 else if i = 0 then .slice (some ⟨w.heap.size + 1, 0, none⟩) 256 256 else box0 i) ∧
              (Cs W4 w3.heap.size 0 [1] ∧ w3.heap.size < W4.heap.size) ∧ W4.rowIs (w.heap.size + 1) 3 256 (fun j => .int .i64 (ex j)) ∧ W4.rowIs (w.heap.size + 1 + 1) 3 256 (fun j => if j ≠ 0 ∧ lg j < 255 then .int .i64 (lg j) else .int .i64 0) ∧
              Poly W4 w.heap.size p1 [0] ∧ Below w.heap.size w W4 := by
            refine ⟨_, rfl, (R3.out.set 2 _).alloc _, ⟨?_, ?_⟩, (T3.out.setOther (by show _ + 1 ≠ w.heap.size; omega) _).alloc _, (L3.out.setOther (by show _ + 1 + 1 ≠ w.heap.size; omega) _).alloc _,
              (P1.out.setNil b2 _).below (((Below.refl _ _).alloc (Nat.le_refl _) _)), (HB3.out.setCell (Nat.le_refl _) _).alloc ?_ _⟩
            · intro i hi'
              obtain rfl : i = 0 := by simpa using hi'
              have := World.cell?_alloc_new (w3.setCell ⟨w.heap.size, 2, none⟩ (pt p1)) #[.int .i64 1] 3 0
              rw [World.size_setCell] at this
              exact this
            · rw [World.size_alloc, World.size_setCell]; omega
            · rw [World.size_setCell]; exact HB3.out.size
          rw [show (Value.pointer (some { block := p1, off := 0 })) = pt p1 from rfl, hW4]
          clear hW4 R3 T3 L3 P1 HB3 b2 f2 b3'
          have hs4 := hB4.size
          refine (newPoly_any W4 w.heap.size w3.heap.size 0 1 [1] (by simp) (by simp) (Nat.le_refl _) hc4.2 hc4.1).mono ?_
          rintro e w5 ⟨p2, rfl, hp2, x5⟩
          rw [nrm_one [1] rfl] at hp2
          have hr5 := rowIs_below hb4 x5 hb4.lt
          have ht5 := rowIs_below ht4 x5 ht4.lt
          have hl5 := rowIs_below hl4 x5 hl4.lt
          have hq5 := hp4.below x5
          have B5 := hB4.trans (x5.mono hs4)
          clear hb4 hc4 ht4 hl4 hB4 x5 hp4
          have b3 : w5.cell? ⟨w.heap.size, 3, none⟩ = some (.pointer none) := hr5.cell (by omega)
          have f3 := hr5.frozen 3
          have R5 := Lib.hid hr5; clear hr5
          have T5 := Lib.hid ht5; clear ht5
          have L5 := Lib.hid hl5; clear hl5
          have P1 := Lib.hid hq5; clear hq5
          have P2 := Lib.hid hp2; clear hp2
          have HB5 := Lib.hid B5; clear B5
          go_wp2
          go_ret
          have z1 := R5.out.set 3 (pt p2)
          have z2 := T5.out.setOther (a := ⟨w.heap.size, 3, none⟩) (by show _ + 1 ≠ w.heap.size; omega) (pt p2)
          have z3 := L5.out.setOther (a := ⟨w.heap.size, 3, none⟩) (by show _ + 1 + 1 ≠ w.heap.size; omega) (pt p2)
          refine ⟨w.heap.size, rfl, ⟨⟨w.heap.size + 1, w.heap.size + 1 + 1, p1, p2, ⟨z1.cell (i := 0) (by omega), z1.cell (i := 1) (by omega), z1.cell (i := 4) (by omega), z1.cell (i := 6) (by omega), fun i hi' => z2.cell hi', fun i hi' => ?_⟩,
            z1.cell (i := 2) (by omega), z1.cell (i := 3) (by omega), P1.out.setNil b3 _, P2.out.setNil b3 _, z2.lt, z3.lt⟩, z1.lt⟩, Nat.le_refl _, HB5.out.setCell (Nat.le_refl _) _⟩
          rw [z3.cell hi']
          unfold lgt
          by_cases h0 : i = 0
          · subst h0; rw [if_neg (by intro h; exact h.1 rfl), if_pos rfl]; rfl
          · rw [if_pos ⟨h0, lg_lt i hi' h0⟩, if_neg h0]
end Go.Proofs.YtcnallabiffemaaGreatDoor
namespace Go.Proofs.YtcnallabiffemaaGreatDoor
open Go.RowKit (wrap32 wrap64 intOf Hid Below)
open Zx

theorem newFld0 (w : World) : Calls Tryz.prog 53 #[] w fun e w' => ∃ fb, e = .returned (pt fb) ∧ Fld w' fb ∧ w.heap.size ≤ fb ∧ Below w.heap.size w w' := by
  go_enter Tryz.func53, Tryz.ntmps53
  go_wp2_with fail
  refine (newFld w).mono ?_
  rintro e w' ⟨fb, rfl, h1, h2, h3⟩
  have H1 := Lib.hid h1; clear h1
  go_wp2
  go_ret
  exact ⟨fb, rfl, H1.out, h2, h3⟩

theorem newRsd (w : World) (fb : Nat) : Calls Tryz.prog 52 #[pt fb] w fun e w' => e = .returned (pt w.heap.size) ∧ w'.cell? ⟨w.heap.size, 0, none⟩ = some (pt fb) ∧ w'.heap.size = w.heap.size + 1 ∧ Below w.heap.size w w' := by
  go_enter Tryz.func52, Tryz.ntmps52
  go_wp2
  go_ret
  exact ⟨rfl, World.cell?_alloc_new w _ _ 0, by rw [World.size_alloc], (Below.refl _ _).alloc (Nat.le_refl _) _⟩

/-- a decoder with its field -/
structure DcOk (w : World) (dc : Nat) : Prop where
  ex : ∃ d fb, w.cell? ⟨dc, 0, none⟩ = some (pt d) ∧ w.cell? ⟨d, 0, none⟩ = some (pt fb) ∧ Fld w fb ∧ d < w.heap.size
  lt : dc < w.heap.size

theorem DcOk.below {w w' : World} {dc : Nat} (h : DcOk w dc) (hw : Below w.heap.size w w') : DcOk w' dc := by
  obtain ⟨⟨d, fb, h1, h2, h3, h4⟩, h5⟩ := h
  exact ⟨⟨d, fb, (hw.cell (p := ⟨dc, 0, none⟩) h5).trans h1, (hw.cell (p := ⟨d, 0, none⟩) h4).trans h2, h3.below hw, Nat.lt_of_lt_of_le h4 hw.size⟩, Nat.lt_of_lt_of_le h5 hw.size⟩

theorem newDec (w : World) : Calls Tryz.prog 28 #[] w fun e w' => ∃ dc, e = .returned (pt dc) ∧ DcOk w' dc ∧ Below w.heap.size w w' := by
  go_enter Tryz.func28, Tryz.ntmps28
  go_wp2_with fail
  refine (newFld0 w).mono ?_
  rintro e w1 ⟨fb, rfl, h1, h2, h3⟩
  have H1 := Lib.hid h1; clear h1
  have H3 := Lib.hid h3
  have z1 := h3.size
  clear h3
  go_wp2_with fail
  refine (newRsd w1 fb).mono ?_
  rintro e w2 ⟨rfl, h4, h5, h6⟩
  have H4 := Lib.hid h4; clear h4
  have H6 := Lib.hid h6; clear h6
  go_wp2
  go_ret
  have b3 : Below w2.heap.size w2 (w2.alloc (.cells #[pt w1.heap.size] 98)) := (Below.refl _ _).alloc (Nat.le_refl _) _
  refine ⟨w2.heap.size, by rw [h5]; rfl, ⟨⟨w1.heap.size, fb, World.cell?_alloc_new w2 _ _ 0, (b3.cell (p := ⟨w1.heap.size, 0, none⟩) (show w1.heap.size < w2.heap.size by omega)).trans H4.out, (H1.out.below H6.out).below b3, by rw [World.size_alloc]; omega⟩, by rw [World.size_alloc]; omega⟩, ?_⟩
  exact (H3.out.trans (H6.out.mono z1)).trans (b3.mono (by omega))
end Go.Proofs.YtcnallabiffemaaGreatDoor
namespace Go.Proofs.YtcnallabiffemaaGreatDoor
open Go.RowKit (wrap32 wrap64 intOf Hid Below)
open Zx

theorem info91 : (Tryz.prog.info? 91).map (fun i => (i.zero, i.size, i.bytes)) = some (some (.int .u32 0), 1, 4) := by kernel_rfl

theorem wraps_u32 (n : Int) (h₀ : 0 ≤ n) (h₁ : n < 2 ^ 32) : IntKind.u32.wrap n = n := by rw [IntKind.wrap_u32]; omega
theorem or_u32 (a b : Nat) (ha : a < 2 ^ 32) (hb : b < 2 ^ 32) : bits .or .u32 (a : Int) (b : Int) = ((a ||| b : Nat) : Int) :=
  (bits_nat .u32 32 (by decide) (fun n h0 h1 => wraps_u32 n h0 h1) a b ha hb).2
theorem and_u32 (a b : Nat) (ha : a < 2 ^ 32) (hb : b < 2 ^ 32) : bits .and .u32 (a : Int) (b : Int) = ((a &&& b : Nat) : Int) :=
  (bits_nat .u32 32 (by decide) (fun n h0 h1 => wraps_u32 n h0 h1) a b ha hb).1
theorem pow_cast (x : Nat) : (2 : Int) ^ x = ((2 ^ x : Nat) : Int) := (Int.natCast_pow 2 x).symm
theorem pow_mod (x : Nat) (h : x < 32) : (2 : Int) ^ x % 4294967296 = ((2 ^ x : Nat) : Int) := by
  have h1 : 2 ^ x < 4294967296 := Nat.lt_of_lt_of_le (Nat.pow_lt_pow_right (by decide) h) (by decide)
  rw [pow_cast]
  exact Int.emod_eq_of_lt (Int.natCast_nonneg _) (Int.ofNat_lt.2 h1)
theorem bit_u32 (v m : Nat) (h : v < 2 ^ 32) : (bits .and .u32 ((v : Int) / 2 ^ m) 1 != 0) = v.testBit m := by
  rw [pow_cast, ← Int.natCast_ediv]
  have := and_u32 (v / 2 ^ m) 1 (Nat.lt_of_le_of_lt (Nat.div_le_self _ _) h) (by decide)
  rw [show ((1 : Nat) : Int) = 1 from rfl] at this
  rw [this, Nat.and_one_is_mod, Nat.testBit_eq_decide_div_mod_eq]
  have h2 := Nat.mod_two_eq_zero_or_one (v / 2 ^ m)
  rcases h2 with h2 | h2 <;> rw [h2] <;> rfl

/-- a bit matrix behind its pointer: W wide, H high, with the bits f -/
structure Bm (w : World) (p b W H : Nat) (ws : Nat → Nat) : Prop where
  box : w.rowIs p 90 4 (fun i => if i = 0 then .int .i64 W else if i = 1 then .int .i64 H else if i = 2 then .int .i64 ((W + 31) / 32 : Nat) else .slice (some ⟨b, 0, none⟩) ((W + 31) / 32 * H) ((W + 31) / 32 * H))
  row : w.rowIs b 91 ((W + 31) / 32 * H) (fun i => .int .u32 (ws i))
  lt : ∀ i, i < (W + 31) / 32 * H → ws i < 2 ^ 32
  w1 : 1 ≤ W ∧ W ≤ 1000
  h1 : 1 ≤ H ∧ H ≤ 1000
  ne : p ≠ b

theorem newBm (w : World) (W H : Nat) (hW : 1 ≤ W ∧ W ≤ 1000) (hH : 1 ≤ H ∧ H ≤ 1000) :
    Calls Tryz.prog 26 #[.int .i64 W, .int .i64 H] w fun e w' => e = .returned (.tuple #[pt (w.heap.size + 1), .nilIface]) ∧ Bm w' (w.heap.size + 1) w.heap.size W H (fun _ => 0) ∧ w'.heap.size = w.heap.size + 2 ∧ Below w.heap.size w w' := by
  have hk : (W + 31) / 32 ≤ 33 := by omega
  have hn : (W + 31) / 32 * H ≤ 33 * 1000 := Nat.mul_le_mul hk hH.2
  have hmk := run_make_row' (P := Tryz.prog) 88 91 (.int .u32 0) 4 (by kernel_rfl) info91 rfl .i64 .i64 ((W + 31) / 32 * H) (by omega) (by omega)
  have ec : (((W + 31) / 32 * H : Nat) : Int) = (((W + 31) / 32 : Nat) : Int) * (H : Int) := by simp
  have e1 : ((W : Int) + 31) / 32 = (((W + 31) / 32 : Nat) : Int) := by omega
  have g1 : ¬ (W : Int) < 1 := by omega
  have g2 : ¬ (H : Int) < 1 := by omega
  obtain ⟨k, hk2⟩ : ∃ k, (W + 31) / 32 = k := ⟨_, rfl⟩
  rw [hk2] at hmk e1 hn ec
  rw [ec] at hmk
  have w1 : (0 : Int) ≤ (k : Int) * (H : Int) := by omega
  have w2 : (k : Int) * (H : Int) ≤ 33000 := by omega
  go_enter Tryz.func26, Tryz.ntmps26
  go_wp2_with fail
  go_ret2
  have r0 := World.rowIs_made w (.int .u32 0) (k * H) 91
  have r1 := World.rowIs_alloc (w.alloc (.cells (madeCells #[Value.int .u32 0] (k * H)) 91)) #[Value.int .i64 W, .int .i64 H, .int .i64 k, .slice (some ⟨w.heap.size, 0, none⟩) (k * H) (k * H)] 90
    (fun i => if i = 0 then .int .i64 W else if i = 1 then .int .i64 H else if i = 2 then .int .i64 k else .slice (some ⟨w.heap.size, 0, none⟩) (k * H) (k * H)) (fun i hi' => by
      match i, hi' with
      | 0, _ => rfl
      | 1, _ => rfl
      | 2, _ => rfl
      | 3, _ => rfl
      | n + 4, h => exact absurd h (by simp))
  rw [World.size_alloc] at r1
  refine ⟨rfl, ⟨?_, ?_, fun _ _ => by decide, hW, hH, by omega⟩, by rw [World.size_alloc, World.size_alloc], ((Below.refl _ _).alloc (Nat.le_refl _) _).alloc (by rw [World.size_alloc]; omega) _⟩
  · rw [hk2]; exact r1
  · rw [hk2]; exact r0.alloc _

theorem Bm.lt' {w : World} {p b W H : Nat} {ws : Nat → Nat} (h : Bm w p b W H ws) : p < w.heap.size ∧ b < w.heap.size := ⟨h.box.lt, h.row.lt⟩

theorem off_lt {W H x y : Nat} (hx : x < W) (hy : y < H) : y * ((W + 31) / 32) + x / 32 < (W + 31) / 32 * H := by
  have h1 : x / 32 < (W + 31) / 32 := by omega
  calc y * ((W + 31) / 32) + x / 32 < y * ((W + 31) / 32) + (W + 31) / 32 := by omega
    _ = (y + 1) * ((W + 31) / 32) := by rw [Nat.add_mul, Nat.one_mul]
    _ ≤ H * ((W + 31) / 32) := Nat.mul_le_mul_right _ hy
    _ = _ := Nat.mul_comm _ _

theorem setBm (w : World) (p b W H x y : Nat) (ws : Nat → Nat) (h : Bm w p b W H ws) (hx : x < W) (hy : y < H) :
    Calls Tryz.prog 27 #[pt p, .int .i64 x, .int .i64 y] w fun e w' => e = .returned (.tuple #[]) ∧
      Bm w' p b W H (fun i => if i = y * ((W + 31) / 32) + x / 32 then ws i ||| 2 ^ (x % 32) else ws i) ∧ But (· = b) w w' ∧ w'.heap.size = w.heap.size := by
  have hof := off_lt hx hy
  obtain ⟨k, hk2⟩ : ∃ k, (W + 31) / 32 = k := ⟨_, rfl⟩
  have hbx := h.box
  have c2 := hbx.cell (i := 2) (by omega)
  have c3 := hbx.cell (i := 3) (by omega)
  have hrow := h.row
  have hl := h.lt _ hof
  have cw := hrow.cell hof
  have ff := hrow.frozen (y * ((W + 31) / 32) + x / 32)
  rw [hk2] at c3 hof cw hl ff
  have c2' : w.cell? ⟨p, 2, none⟩ = some (.int .i64 k) := by rw [c2, ← hk2]; rfl
  clear c2
  have HH := Lib.hid h; clear h hbx hrow
  have e1 : (y : Int) * (k : Int) + (x : Int) / 32 = ((y * k + x / 32 : Nat) : Int) := by simp
  have hw1 := HH.out.w1
  have hh1 := HH.out.h1
  have hk3 : k ≤ 33 := by omega
  have hm : y * k ≤ 1000 * 33 := Nat.mul_le_mul (by omega) hk3
  have hm2 : ((y * k : Nat) : Int) = (y : Int) * (k : Int) := by simp
  have m1 : (0 : Int) ≤ (y : Int) * (k : Int) := by omega
  have m2 : (y : Int) * (k : Int) ≤ 33000 := by omega
  obtain ⟨g, hg⟩ : ∃ g, y * k + x / 32 = g := ⟨_, rfl⟩
  rw [hg] at e1 hof cw hl ff
  have hm3 : k * H ≤ 33 * 1000 := Nat.mul_le_mul hk3 (by omega)
  go_enter Tryz.func27, Tryz.ntmps27
  go_wp2_with fail
  refine bodyPost_end (results_none rfl _ _ _) rfl ?_
  have hp := pow_mod (x % 32) (by omega)
  have hpl : 2 ^ (x % 32) < 2 ^ 32 := Nat.pow_lt_pow_right (by decide) (by omega)
  rw [hp, or_u32 _ _ hl hpl]
  refine ⟨rfl, ⟨HH.out.box.setOther HH.out.ne _, (HH.out.row.set g _).congr fun i _ => ?_, fun i hi' => ?_, HH.out.w1, HH.out.h1, HH.out.ne⟩, (But.refl (· = b) w).thenSet (a := ⟨b, g, none⟩) (.inl rfl) _, World.size_setCell _ _ _⟩
  · rw [hk2, hg]; split
    · rename_i h; rw [h]
    · rfl
  · rw [hk2, hg]
    show (if i = g then _ else _) < _
    split
    · rename_i h; rw [h]; exact Nat.or_lt_two_pow hl hpl
    · exact HH.out.lt i hi'

/-- the bit at a place -/
def bmAt (W : Nat) (ws : Nat → Nat) (x y : Nat) : Bool := (ws (y * ((W + 31) / 32) + x / 32)).testBit (x % 32)

theorem bmAt_zero (W x y : Nat) : bmAt W (fun _ => 0) x y = false := Nat.zero_testBit _

theorem bmAt_set (W : Nat) (ws : Nat → Nat) (x y x' y' : Nat) (hx : x < W) (hx' : x' < W) :
    bmAt W (fun i => if i = y * ((W + 31) / 32) + x / 32 then ws i ||| 2 ^ (x % 32) else ws i) x' y' = (bmAt W ws x' y' || decide (x' = x ∧ y' = y)) := by
  unfold bmAt
  obtain ⟨k, hk⟩ : ∃ k, (W + 31) / 32 = k := ⟨_, rfl⟩
  rw [hk]
  have h1 : x / 32 < k := by omega
  have h2 : x' / 32 < k := by omega
  by_cases h : y' * k + x' / 32 = y * k + x / 32
  · have hy : y' = y := by
      rcases Nat.lt_trichotomy y' y with h3 | h3 | h3
      · have := Nat.mul_le_mul_right k h3
        rw [Nat.succ_mul] at this; omega
      · exact h3
      · have := Nat.mul_le_mul_right k h3
        rw [Nat.succ_mul] at this; omega
    subst hy
    show (if y' * k + x' / 32 = y' * k + x / 32 then _ else _ : Nat).testBit _ = _
    rw [if_pos h, Nat.testBit_or, Nat.testBit_two_pow, h]
    congr 1
    have hd : x' / 32 = x / 32 := by omega
    by_cases h4 : x % 32 = x' % 32
    · rw [decide_eq_true h4, decide_eq_true]; exact ⟨by omega, rfl⟩
    · rw [decide_eq_false h4, decide_eq_false]; rintro ⟨h5, _⟩; omega
  · show (if y' * k + x' / 32 = y * k + x / 32 then _ else _ : Nat).testBit _ = _
    rw [if_neg h, decide_eq_false, Bool.or_false]
    rintro ⟨rfl, rfl⟩; exact h rfl

theorem getBm (w : World) (p b W H x y : Nat) (ws : Nat → Nat) (h : Bm w p b W H ws) (hx : x < W) (hy : y < H) :
    Calls Tryz.prog 42 #[pt p, .int .i64 x, .int .i64 y] w fun e w' => e = .returned (.bool (bmAt W ws x y)) ∧ w = w' := by
  unfold bmAt
  have hof := off_lt hx hy
  obtain ⟨k, hk2⟩ : ∃ k, (W + 31) / 32 = k := ⟨_, rfl⟩
  have hbx := h.box
  have c0 := hbx.cell (i := 0) (by omega)
  have c1 := hbx.cell (i := 1) (by omega)
  have c2 := hbx.cell (i := 2) (by omega)
  have c3 := hbx.cell (i := 3) (by omega)
  have hrow := h.row
  have hl := h.lt _ hof
  have cw := hrow.cell hof
  rw [hk2] at c3 hof cw hl
  have c2' : w.cell? ⟨p, 2, none⟩ = some (.int .i64 k) := by rw [c2, ← hk2]; rfl
  have c0' : w.cell? ⟨p, 0, none⟩ = some (.int .i64 W) := c0
  have c1' : w.cell? ⟨p, 1, none⟩ = some (.int .i64 H) := c1
  clear c2 c0 c1
  have hw1 := h.w1
  have hh1 := h.h1
  clear h hbx hrow
  have e1 : (y : Int) * (k : Int) + (x : Int) / 32 = ((y * k + x / 32 : Nat) : Int) := by simp
  have hk3 : k ≤ 33 := by omega
  have hm : y * k ≤ 1000 * 33 := Nat.mul_le_mul (by omega) hk3
  have hm2 : ((y * k : Nat) : Int) = (y : Int) * (k : Int) := by simp
  have m1 : (0 : Int) ≤ (y : Int) * (k : Int) := by omega
  have m2 : (y : Int) * (k : Int) ≤ 33000 := by omega
  rw [hk2]
  obtain ⟨g, hg⟩ : ∃ g, y * k + x / 32 = g := ⟨_, rfl⟩
  rw [hg] at e1 hof cw hl
  rw [hg]
  have hm3 : k * H ≤ 33 * 1000 := Nat.mul_le_mul hk3 (by omega)
  have i1 : (x : Int) < (W : Int) := by omega
  have i2 : (y : Int) < (H : Int) := by omega
  go_enter Tryz.func42, Tryz.ntmps42
  go_wp2_with fail
  go_ret
  exact ⟨by rw [← bit_u32 _ _ hl]; rfl, rfl⟩

end Go.Proofs.YtcnallabiffemaaGreatDoor
