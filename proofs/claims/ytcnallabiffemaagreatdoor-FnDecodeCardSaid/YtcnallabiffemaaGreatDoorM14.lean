import Derived.Maps.OwnOps
import Derived.Maps.OwnSet
import Derived.Lib.SliceRun
import Derived.Test.YtcnallabiffemaaGreatDoorM03
import Derived.Test.YtcnallabiffemaaGreatDoorM05
import Derived.Test.YtcnallabiffemaaGreatDoorM06
import Derived.Test.YtcnallabiffemaaGreatDoorM12
import Derived.Test.YtcnallabiffemaaGreatDoorM13
/- Part of the proof that a Data Matrix symbol of a text, damaged at most to half of its check codewords in each block, is decoded to the text (FnDecode): texts D5 X3 C3 V2 V3 X4 X5. -/
set_option linter.unusedVariables false
set_option linter.unusedSimpArgs false
namespace Zx

theorem tcw_append : ∀ (x y : List Nat), x.length % 3 = 0 → tcw (x ++ y) = tcw x ++ tcw y
  | [], y, _ => rfl
  | [_], y, h => by simp at h
  | [_, _], y, h => by simp at h
  | a :: b :: c :: x, y, h => by
    show _ :: _ :: tcw (x ++ y) = _ :: _ :: (tcw x ++ tcw y)
    rw [tcw_append x y (by simp only [List.length_cons] at h; omega)]
theorem take_three (l : List Nat) (i : Nat) (h : i + 3 ≤ l.length) : l.take (i + 3) = l.take i ++ [l.getD i 0, l.getD (i + 1) 0, l.getD (i + 2) 0] := by
  have g : ∀ k, k < l.length → l[k]? = some (l.getD k 0) := fun k hk => by rw [List.getD_eq_getElem?_getD, List.getElem?_eq_getElem hk]; rfl
  rw [show i + 3 = i + 1 + 1 + 1 from rfl, List.take_add_one, List.take_add_one, List.take_add_one, g i (by omega), g (i + 1) (by omega), g (i + 1 + 1) (by omega)]
  simp
theorem tcw_take3 (l : List Nat) (i : Nat) (h3 : i % 3 = 0) (h : i + 3 ≤ l.length) :
    tcw (l.take (i + 3)) = tcw (l.take i) ++ [(1600 * l.getD i 0 + 40 * l.getD (i + 1) 0 + l.getD (i + 2) 0 + 1) / 256, (1600 * l.getD i 0 + 40 * l.getD (i + 1) 0 + l.getD (i + 2) 0 + 1) % 256] := by
  rw [take_three l i h, tcw_append _ _ (by rw [List.length_take]; omega)]
  rfl

/-- the latch of a mode of triples -/
def latchN (mode : Nat) : Nat := if mode = 1 then 230 else if mode = 2 then 239 else 238

/-- a piece of triples, read -/
theorem triples_ok (p mode : Nat) (hm : 1 ≤ mode ∧ mode ≤ 3) (t : List Nat) (ht : ∀ c ∈ t, c < 128 ∧ valsL (mode + 1) c ≠ []) (h3 : (valsT (mode + 1) t).length % 3 = 0) :
    SegOk p (latchN mode :: (tcw (valsT (mode + 1) t) ++ [254])) t := by
  have h := valsT_ok (mode + 1) t (by omega) ht
  refine SegOk.triples p (mode + 1) (latchN mode) (valsT (mode + 1) t) t h.2.1 h3 ?_ h.1
  unfold latchN
  have hx : mode = 1 ∨ mode = 2 ∨ mode = 3 := by omega
  rcases hx with rfl | rfl | rfl <;> simp
end Zx
namespace Go.Proofs.YtcnallabiffemaaGreatDoor
open Go.RowKit (wrap32 wrap64 intOf Hid Below)
open Zx

/-- a piece of a text, in some mode -/
def SegTo1 (w : World) (behind : Nat) (l : List Nat) (e : Ending) (w' : World) : Prop :=
  ∃ n words, n ≤ l.length ∧ PieceTo w words n e w' ∧ (n ≠ 0 → SegOk behind words (l.take n) ∧ (∀ x ∈ words, x < 256) ∧ words.length ≤ 2 * n + 3 ∧ words ≠ [])
theorem pAsc_ne : ∀ l : List Nat, l ≠ [] → pAsc l ≠ []
  | [], h => absurd rfl h
  | [a], _ => by simp [pAsc]
  | a :: b :: r, _ => by rw [pAsc]; split <;> simp

theorem Ig.below {w wr w' : World} {x : Value} {l : List Nat} (h : Ig w wr x l) (hb : Below wr.heap.size wr w') : Ig w w' x l := ⟨h.own.below hb, h.bel.trans (hb.mono h.bel.size)⟩

theorem segA (w : World) (s : ByteArray) (behind : Nat) (hs : s.size ≤ 1000) (h128 : ∀ c ∈ chs s, c < 128) : Calls Tryz.prog 19 #[.string s, .int .i64 0, .int .i64 behind] w (SegTo1 w behind (chs s)) := by
  have ac := asciiC w s (by omega) h128
  have H128 := Lib.hid h128; clear h128
  go_enter Tryz.func19, Tryz.ntmps19
  go_wp2_with fail
  refine ac.mono ?_
  rintro e w' ⟨v, rfl, hig⟩
  have IG := Lib.hid hig; clear hig ac
  go_wp2
  go_ret2
  refine ⟨s.size, _, by rw [chs_len]; exact Nat.le_refl _, ⟨v, rfl, IG.out⟩, fun h0 => ⟨?_, pAsc_lt _ H128.out, ?_, pAsc_ne _ (fun h => h0 (by rw [← chs_len, h]; rfl))⟩⟩
  · rw [List.take_of_length_le (by rw [chs_len]; exact Nat.le_refl _)]; exact SegOk.ascii _ _ H128.out
  · have := pAsc_len (chs s); rw [chs_len] at this; omega

theorem segE (w : World) (s : ByteArray) (behind : Nat) (hs : s.size ≤ 1000) : Calls Tryz.prog 19 #[.string s, .int .i64 4, .int .i64 behind] w (SegTo1 w behind (chs s)) := by
  have ac := sextetsC w s hs
  go_enter Tryz.func19, Tryz.ntmps19
  go_wp2_with fail
  refine ac.mono ?_
  rintro e w' ⟨n, words, hn, ⟨v, rfl, hig⟩, hx⟩
  have IG := Lib.hid hig; clear hig ac
  have HX := Lib.hid hx; clear hx
  go_wp2
  go_ret2
  refine ⟨n, words, hn, ⟨v, rfl, IG.out⟩, fun h0 => ?_⟩
  obtain ⟨rfl, h2⟩ := HX.out h0
  refine ⟨SegOk.sextets _ _ h2, fun x hx => ?_, ?_, by simp⟩
  · rcases List.mem_cons.1 hx with rfl | hx
    · decide
    · refine ecw_lt _ (fun c hc => ?_) x hx
      rcases List.mem_append.1 hc with h | h
      · obtain ⟨y, _, rfl⟩ := List.mem_map.1 h; exact Nat.mod_lt _ (by decide)
      · simp at h; omega
  · rw [List.length_cons, ecw_len, List.length_append, List.length_map, List.length_take, List.length_singleton]; omega

theorem segB (w : World) (s : ByteArray) (behind : Nat) (hs : s.size < 250) (hb : behind ≤ 100000) (h128 : ∀ c ∈ chs s, c < 128) : Calls Tryz.prog 19 #[.string s, .int .i64 5, .int .i64 behind] w (SegTo1 w behind (chs s)) := by
  have ac := randomizedC w s behind hs hb
  have H128 := Lib.hid h128; clear h128
  go_enter Tryz.func19, Tryz.ntmps19
  go_wp2_with fail
  refine ac.mono ?_
  rintro e w' ⟨v, rfl, hig⟩
  have IG := Lib.hid hig; clear hig ac
  go_wp2
  go_ret2
  refine ⟨s.size, _, by rw [chs_len]; exact Nat.le_refl _, ⟨v, rfl, IG.out⟩, fun h0 => ⟨?_, fun x hx => ?_, ?_, by simp⟩⟩
  · rw [List.take_of_length_le (by rw [chs_len]; exact Nat.le_refl _)]
    have := SegOk.bytes behind (chs s) H128.out (fun h => h0 (by rw [← chs_len, h]; rfl)) (by rw [chs_len]; exact hs)
    rwa [chs_len] at this
  · rcases List.mem_cons.1 hx with rfl | hx
    · decide
    · exact rnds_lt _ _ x hx
  · rw [List.length_cons, rnds_len, List.length_cons, chs_len]; omega
end Go.Proofs.YtcnallabiffemaaGreatDoor
namespace Go.Proofs.YtcnallabiffemaaGreatDoor
open Go.RowKit (wrap32 wrap64 intOf Hid Below)
open Zx

/-- a slice of numbers that is there, in a block behind lo -/
def RdN (w : World) (lo : Nat) (v : Value) (l : List F) : Prop := ∃ g cap, v = .slice (some ⟨g, 0, none⟩) l.length cap ∧ lo < g ∧ g < w.heap.size ∧ ∀ j, j < l.length → w.cell? ⟨g, j, none⟩ = some (fv (hi l j))
theorem RdN.but {w w' : World} {lo : Nat} {v : Value} {l : List F} (h : RdN w lo v l) {S : Nat → Prop} (hb : But S w w') (hs : ∀ g, lo < g → g < w.heap.size → ¬ S g) : RdN w' lo v l := by
  obtain ⟨g, cap, h1, h2, h3, h4⟩ := h
  exact ⟨g, cap, h1, h2, Nat.lt_of_lt_of_le h3 hb.size, fun j hj => (hb.cell (p := ⟨g, j, none⟩) h3 (hs g h2 h3)).trans (h4 j hj)⟩
theorem Ig.rdN {w wr : World} {lo : Nat} {x : Value} {l : List F} (h : Ig w wr x (vs l)) (hl : l ≠ []) (hlo : lo < w.heap.size) : RdN wr lo x l := by
  rcases h.own.shape with ⟨_, h0⟩ | ⟨g, cap, h1, h2, h3, _, h5, _⟩
  · exact absurd (List.map_eq_nil_iff.1 (List.map_eq_nil_iff.1 h0)) hl
  · exact ⟨g, cap, by rw [h1, List.length_map, List.length_map], by omega, h3, fun j hj => h5 j _ (vs_get l j hj)⟩

/-- the codewords of a block, as far as they are collected -/
def blkP (data : List F) (B b t : Nat) : List F := (List.range t).map fun i => hi data (i * B + b)
theorem blkP_succ (data : List F) (B b t : Nat) : vs (blkP data B b (t + 1)) = vs (blkP data B b t) ++ [(hi data (t * B + b)).v] := by
  unfold blkP vs
  rw [List.range_succ, List.map_append, List.map_append]; rfl
theorem info22 : (Tryz.prog.info? 22).map (fun i => (i.zero, i.size, i.bytes)) = some (some (.slice none 0 0), 1, 24) := by kernel_rfl

theorem quoN (x B n : Nat) (hB : 0 < B) (h : x = n * B) (hn : n ≤ 100000) : wrap64 ((x : Int) / (B : Int)) = (n : Int) := by
  have h1 : x / B = n := by rw [h]; exact Nat.mul_div_cancel _ hB
  have h2 : (x : Int) / (B : Int) = (n : Int) := by rw [← h1]; rfl
  rw [h2]
  exact IntWalk.wrap64_in _ (by omega)
theorem blkP_end (data : List F) (B b k : Nat) (hB : 0 < B) (h : data.length = k * B) : blkP data B b k = blk data B b := by
  unfold blkP blk
  rw [h, Nat.mul_div_cancel _ hB]
theorem chk_len (data : List F) (n : Nat) : (chk data n).length = n := lfr_len _ _ _
theorem vs_ne {l : List F} (h : 0 < l.length) : vs l ≠ [] := fun e => by have := congrArg List.length e; rw [List.length_map] at this; simp at this; rw [this] at h; exact absurd h (by decide)
/-- the slices' row, one more -/
theorem tvSet (b : Nat) (tv : Nat → Value) (v : Value) (i : Nat) : (if i = b then v else if i < b then tv i else .slice none 0 0) = if i < b + 1 then (if i = b then v else tv i) else .slice none 0 0 := by
  by_cases h : i = b
  · rw [if_pos h, if_pos (by omega), if_pos h]
  · rw [if_neg h, if_neg h]
    by_cases h2 : i < b
    · rw [if_pos h2, if_pos (by omega)]
    · rw [if_neg h2, if_neg (by omega)]

theorem wI (n : Nat) (h : n ≤ 1000) : IntKind.i64.wrap (n : Int) = (n : Int) := by rw [IntKind.wrap_i64]; omega
/-- the own slice's block, from append to append -/
theorem own_next {x z z' : Value} {w4 w5 w6 w7 : World} {e : TypeId} {base : Nat} {xs : List Value} (h : AppTo w6 w7 e base z z' xs) (hb : But (fun c => x.ownBlock = some c) w4 w5) (ho : z.ownBlock = x.ownBlock ∨ ∀ c, z.ownBlock = some c → w4.heap.size ≤ c) (h56 : But (fun c => x.ownBlock = some c) w5 w6) :
    But (fun c => x.ownBlock = some c) w4 w7 ∧ (z'.ownBlock = x.ownBlock ∨ ∀ c, z'.ownBlock = some c → w4.heap.size ≤ c) := by
  refine ⟨(hb.trans h56).trans2 h.but fun i hi ht => ?_, ?_⟩
  · rcases ho with ho | ho
    · exact ho ▸ ht
    · exact absurd (ho i ht) (Nat.not_le_of_lt hi)
  · rcases h.at_ with h1 | h1
    · rw [h1]; exact ho
    · refine .inr fun c hc => ?_
      rw [h1] at hc
      cases hc
      exact Nat.le_trans hb.size h56.size

set_option maxRecDepth 100000 in
set_option maxHeartbeats 8000000 in
theorem wordsC (w : World) (s : Sym) (hf : SymFine s) (vd : Value) (data : List F) (hv : Rd w vd (vs data)) (hd : data.length = s.data) : Calls Tryz.prog 11 #[sv s, vd] w (FillTo w (vs (wordsF data s.blocks s.n))) := by
  obtain ⟨gd, cd, rfl, hgd, hdc⟩ := hv
  have hL : (vs data).length = data.length := List.length_map _
  rw [hL]
  have hdk := hf.dk
  have hcn := hf.cn
  have hb0 := hf.b0
  have hn0 := hf.n0
  have hk0 := hf.k0
  have hdcl := hf.dc
  rw [← hd] at hdk hdcl
  unfold sv
  obtain ⟨B, hB⟩ : ∃ B, s.blocks = B := ⟨_, rfl⟩
  obtain ⟨n, hn⟩ : ∃ n, s.n = n := ⟨_, rfl⟩
  obtain ⟨k, hk⟩ : ∃ k, s.k = k := ⟨_, rfl⟩
  obtain ⟨Ck, hCk⟩ : ∃ c, s.check = c := ⟨_, rfl⟩
  obtain ⟨D, hD⟩ : ∃ D, data.length = D := ⟨_, rfl⟩
  rw [← hd]
  simp only [hB, hn, hk, hCk, hD] at hdk hcn hb0 hn0 hk0 hdcl ⊢
  have HDC : Hid (∀ j, j < D → w.cell? ⟨gd, j, none⟩ = some (fv (hi data j))) := Lib.hid fun j hj => hdc j _ (vs_get data j (by rw [hD]; exact hj))
  clear hdc hL hB hn hk hCk hf hd
  have HD := Lib.hid hD; clear hD
  have DK := Lib.hid hdk; clear hdk
  have CN := Lib.hid hcn; clear hcn
  obtain ⟨w1, hw1⟩ : ∃ w1, w.alloc (.cells #[num s.rows, num s.cols, num s.down, num s.across, num D, num Ck, num B] 27) = w1 := ⟨_, rfl⟩
  have cb : ∀ i, w1.cell? ⟨w.heap.size, i, none⟩ = (#[num s.rows, num s.cols, num s.down, num s.across, num D, num Ck, num B])[i]? := fun i => by rw [← hw1]; exact World.cell?_alloc_new w _ _ i
  have z1 : Hid (w1.heap.size = w.heap.size + 1 ∧ Below w.heap.size w w1) := Lib.hid (by rw [← hw1]; exact ⟨World.size_alloc _ _, (Below.refl _ _).alloc (Nat.le_refl _) _⟩)
  have c5 := cb 5
  have c6 := cb 6
  simp only [List.getElem?_toArray, List.getElem?_cons_zero, List.getElem?_cons_succ] at c5 c6
  have C5 := Lib.hid c5; clear c5
  have C6 := Lib.hid c6; clear c6 cb
  have hmk := run_make_row' (P := Tryz.prog) 54 22 (.slice none 0 0) 24 Tryz.underlying54 info22 rfl .i64 .i64 B (by omega) (by omega)
  have l0 := Lib.hid (Ig.lit0 (Below.refl w1.heap.size w1))
  have hc2 : ∀ (j : Nat) (u : Value), ((vs data).map num)[j]? = some u → (w1.alloc (.cells #[] 3)).cell? ((⟨gd, 0, none⟩ : Addr).add j) = some u := fun j u hu => by
    rw [addr_add, Nat.zero_add]
    have hj : j < data.length := by have := (List.getElem?_eq_some_iff.1 hu).1; simpa using this
    rw [vs_get data j hj] at hu
    cases hu
    exact (((z1.out.2.trans ((Below.refl w1.heap.size w1).alloc (Nat.le_refl _) (.cells #[] 3)|>.mono (by rw [z1.out.1]; omega)))).cell (p := ⟨gd, j, none⟩) hgd).trans (HDC.out j (by rw [← HD.out]; exact hj))
  have HC2 := Lib.hid hc2; clear hc2
  have hbox : w.heap.size < w1.heap.size := by rw [z1.out.1]; exact Nat.lt_succ_self _
  go_enter Tryz.func11, Tryz.ntmps11
  go_wp2_with ((with_reducible show wpList _ _ _ (Oper.mk (some 13) _ _ _ _ _ :: _) _ _); refine wpList_appV rfl (.tmp 11) (.tmp 12) 22 3 rfl Tryz.underlying22 (.int .i64 0) 8 infoI rfl (by decide) w1.heap.size (.slice (some ⟨w1.heap.size, 0, none⟩) 0 0) (([] : List Nat).map num) rfl l0.out.own ⟨gd, 0, none⟩ D cd ((vs data).map num) rfl (by rw [List.length_map, List.length_map, HD.out]) HC2.out (num_one _) (by simp; omega) (l0.out.bel.size) ?_; intro x w2 H; have I2 : Hid (Ig w1 w2 x (vs data)) := Lib.hid (Ig.appL l0.out H.out); clear H; have e6 := (I2.out.bel.cell (p := ⟨w.heap.size, 6, none⟩) hbox).trans C6.out)
  clear e6 hmk hw1 l0 HC2
  have mk0 := Lib.hid (World.rowIs_made w2 (.slice none 0 0) B 22)
  have bm0 := Lib.hid ((Below.refl w2.heap.size w2).alloc (Nat.le_refl _) (.cells (madeCells #[.slice none 0 0] B) 22))
  obtain ⟨tb, htb⟩ : ∃ tb, w2.heap.size = tb := ⟨_, rfl⟩
  rw [htb] at mk0 ⊢
  have HTB := Lib.hid htb; clear htb
  generalize hw3 : w2.alloc (.cells (madeCells #[.slice none 0 0] B) 22) = w3 at mk0 bm0 ⊢
  have hz3 : w3.heap.size = tb + 1 := by rw [← hw3, World.size_alloc, HTB.out]
  have Z3 := Lib.hid hz3; clear hz3 hw3
  have I3 : Hid (Ig w1 w3 x (vs data)) := Lib.hid (I2.out.below bm0.out)
  have hxb : ∀ b, x.ownBlock = some b → w1.heap.size ≤ b ∧ b < tb := fun b hb => by have := I2.out.own.lt hb; rw [HTB.out] at this; exact this
  have HXB := Lib.hid hxb; clear hxb
  have htb1 : w1.heap.size ≤ tb := by have := I2.out.bel.size; rw [HTB.out] at this; exact this
  have HTB1 := Lib.hid htb1; clear htb1 bm0
  go_loopw [19] (fun s19 wr => ∃ (b : Nat) (tv : Nat → Value), s19 = .int .i64 b ∧ b ≤ B ∧ wr.rowIs tb 22 B (fun j => if j < b then tv j else .slice none 0 0) ∧ (∀ j, j < b → RdN wr tb (tv j) (chk (blk data B j) n)) ∧ But (· = tb) w3 wr) (fun s19 _ => B - (intOf s19).toNat)
  case atStart => exact ⟨0, fun _ => .slice none 0 0, rfl, Nat.zero_le _, mk0.out.congr fun i _ => by rw [if_neg (Nat.not_lt_zero i)], fun j hj => absurd hj (Nat.not_lt_zero j), But.refl _ _⟩
  case round =>
    clear mk0
    obtain ⟨b, tv, rfl, hb, hrow, hrd, hbut⟩ := hrel
    obtain ⟨w4, rfl⟩ : ∃ w4 : World, w4 = wr := ⟨_, rfl⟩
    have hbt : w.heap.size ≠ tb := by have := HTB1.out; rw [z1.out.1] at this; omega
    have hb3 : w.heap.size < w3.heap.size := by have := HTB1.out; rw [z1.out.1] at this; rw [Z3.out]; omega
    have e5 := (hbut.cell (p := ⟨w.heap.size, 5, none⟩) hb3 hbt).trans ((I3.out.bel.cell (p := ⟨w.heap.size, 5, none⟩) hbox).trans C5.out)
    have e6 := (hbut.cell (p := ⟨w.heap.size, 6, none⟩) hb3 hbt).trans ((I3.out.bel.cell (p := ⟨w.heap.size, 6, none⟩) hbox).trans C6.out)
    have hgdt : gd < w3.heap.size := by rw [Z3.out]; have := HTB1.out; rw [z1.out.1] at this; omega
    have hgdn : gd ≠ tb := by have := HTB1.out; rw [z1.out.1] at this; omega
    have dc : ∀ j, j < D → w4.cell? ⟨gd, j, none⟩ = some (fv (hi data j)) := fun j hj => (hbut.cell (p := ⟨gd, j, none⟩) hgdt hgdn).trans ((I3.out.bel.cell (p := ⟨gd, j, none⟩) (show gd < w1.heap.size by rw [z1.out.1]; omega)).trans ((z1.out.2.cell (p := ⟨gd, j, none⟩) hgd).trans (HDC.out j hj)))
    have E5 := Lib.hid e5; clear e5
    have E6 := Lib.hid e6; clear e6
    have DC := Lib.hid dc; clear dc hgdt hgdn
    have htl : tb < w4.heap.size := hrow.lt
    have hb4 : w.heap.size < w4.heap.size := by have := HTB1.out; rw [z1.out.1] at this; omega
    have hg4 : gd < w4.heap.size := by omega
    have HROW := Lib.hid hrow; clear hrow
    have HRD := Lib.hid hrd; clear hrd
    have HBUT := Lib.hid hbut; clear hbut
    by_cases hbB : b < B
    · go_wp2_with fail
      go_loopw [8, 9] (fun s8 s9 wr => ∃ (y : Value) (t q : Nat), y = s8 ∧ s9 = .int .i64 q ∧ q = t * B + b ∧ t ≤ k ∧ Ig w4 wr y (vs (blkP data B b t))) (fun _ s9 _ => D + B - (intOf s9).toNat)
      case atStart => exact ⟨_, 0, b, rfl, rfl, by rw [Nat.zero_mul, Nat.zero_add], Nat.zero_le _, Ig.nil w4⟩
      case round =>
        obtain ⟨y, t, q, rfl, rfl, hq, htk, hig⟩ := hrel
        obtain ⟨w5, rfl⟩ : ∃ w5 : World, w5 = wr := ⟨_, rfl⟩
        have e6 := (hig.bel.cell (p := ⟨w.heap.size, 6, none⟩) hb4).trans E6.out
        have hqD : q < D ↔ t < k := by
          rw [hq, DK.out]
          constructor
          · intro h
            refine Nat.lt_of_not_le fun h2 => ?_
            have := Nat.mul_le_mul_right B h2
            omega
          · intro h
            have := Nat.mul_le_mul_right B (show t + 1 ≤ k from h)
            rw [Nat.add_mul, Nat.one_mul] at this; omega
        have HQ := Lib.hid hq
        have hql : q ≤ 2000 := by
          have := Nat.mul_le_mul_right B htk
          rw [← DK.out] at this; omega
        have hlen : (vs (blkP data B b t)).length ≤ 400 := by rw [List.length_map]; unfold blkP; rw [List.length_map, List.length_range]; omega
        have IG := Lib.hid hig; clear hig
        clear hq
        by_cases hqd : q < D
        · have htk2 := hqD.1 hqd
          have c1 := (IG.out.bel.cell (p := ⟨gd, q, none⟩) hg4).trans (DC.out q hqd)
          have hs := blkP_succ data B b t
          rw [← HQ.out] at hs
          generalize hi data q = d at c1 hs
          have HS := Lib.hid hs; clear hs hqD
          go_wp2_with ((with_reducible show wpList _ _ _ (Oper.mk (some 37) _ _ _ _ _ :: _) _ _); refine wpList_appV rfl (.tmp 31) (.tmp 36) 22 3 rfl Tryz.underlying22 (.int .i64 0) 8 infoI rfl (by decide) w4.heap.size y ((vs (blkP data B b t)).map num) rfl (IG.out.new _) ⟨w5.heap.size, 0, none⟩ 1 1 [_] rfl rfl (cell_one_new _ _ _) (one_i64 _) (by rw [List.length_map]; omega) (IG.out.bs _) ?_; intro y2 w6 H; have IG2 := Lib.hid (IG.out.app (c := d.v) H.out rfl); clear H; have e6' := (IG2.out.bel.cell (p := ⟨w.heap.size, 6, none⟩) hb4).trans E6.out)
          go_roundw
          case rel => exact ⟨y2, t + 1, q + B, rfl, by go_num, by rw [HQ.out, Nat.add_mul, Nat.one_mul]; omega, htk2, by rw [HS.out]; exact IG2.out⟩
          case measure => simp [intOf]; omega
        · have htk3 : t = k := by have : ¬ t < k := fun h => hqd (hqD.2 h); omega
          subst htk3
          have e5 := (IG.out.bel.cell (p := ⟨w.heap.size, 5, none⟩) hb4).trans E5.out
          have hkn : 0 < t := by
            refine Nat.pos_of_ne_zero fun h => ?_
            have := DK.out
            rw [h, Nat.zero_mul] at this; omega
          have hbl : blkP data B b t = blk data B b := blkP_end data B b t hb0.1 (by rw [HD.out]; exact DK.out)
          have RY : Hid (Rd w5 y (vs (blk data B b))) := Lib.hid (by
            rw [← hbl]
            exact IG.out.rd (vs_ne (by unfold blkP; rw [List.length_map, List.length_range]; exact hkn)))
          have hblen : (blk data B b).length ≤ 5000 := by rw [← hbl]; unfold blkP; rw [List.length_map, List.length_range]; omega
          have e5 := (IG.out.bel.cell (p := ⟨w.heap.size, 5, none⟩) hb4).trans E5.out
          clear hqD hbl hlen
          go_wp2_with fail
          rw [quoN Ck B n hb0.1 CN.out (by omega)]
          clear e5 e6
          refine (checkC w5 y (blk data B b) n RY.out (by omega) hblen).mono ?_
          rintro e w6 ⟨v6, rfl, hig6⟩
          obtain ⟨gv, cv, rfl, _, _⟩ := hig6.rd (vs_ne (by rw [chk_len]; omega))
          obtain ⟨L6, hL6⟩ : ∃ L, (vs (chk (blk data B b) n)).length = L := ⟨_, rfl⟩
          rw [hL6] at hig6 ⊢
          clear hL6
          have IG6 := Lib.hid hig6; clear hig6 RY
          obtain ⟨V6, hV6⟩ : ∃ V6, Value.slice (some ⟨gv, 0, none⟩) L6 cv = V6 := ⟨_, rfl⟩
          rw [hV6] at IG6
          have row6 := rowIs_below (rowIs_below HROW.out IG.out.bel htl) IG6.out.bel (Nat.lt_of_lt_of_le htl IG.out.bel.size)
          have f6 := row6.frozen b
          have g6 := row6.cell hbB
          have but6 : But (· = tb) w3 (w6.setCell ⟨tb, b, none⟩ V6) := ((HBUT.out.thenAll IG.out.bel).thenAll IG6.out.bel).thenSet (.inl rfl) _
          have rd6 : RdN (w6.setCell ⟨tb, b, none⟩ V6) tb V6 (chk (blk data B b) n) := (IG6.out.rdN (fun h => by have := chk_len (blk data B b) n; rw [h] at this; simp at this; omega) (Nat.lt_of_lt_of_le htl IG.out.bel.size)).but (S := (· = tb)) ((But.refl (· = tb) w6).thenSet (a := ⟨tb, b, none⟩) (.inl rfl) V6) (fun g hg _ e => by omega)
          have hrdj : ∀ j, j < b + 1 → RdN (w6.setCell ⟨tb, b, none⟩ V6) tb (if j = b then V6 else tv j) (chk (blk data B j) n) := fun j hj => by
            by_cases h : j = b
            · rw [if_pos h, h]; exact rd6
            · rw [if_neg h]
              exact (HRD.out j (by omega)).but (S := (· = tb)) ((((But.ofAll IG.out.bel : But (· = tb) w4 w5)).thenAll IG6.out.bel).thenSet (a := ⟨tb, b, none⟩) (.inl rfl) _) (fun g hg _ e => by omega)
          have row7 := (row6.set b V6).congr fun i _ => tvSet b tv V6 i
          have X1 := Lib.hid but6
          have X2 := Lib.hid hrdj
          have X3 := Lib.hid row7
          clear but6 rd6 hrdj row7 row6
          subst hV6
          go_wp2_with fail
          go_roundw
          case rel => exact ⟨b + 1, fun j => if j = b then .slice (some ⟨gv, 0, none⟩) L6 cv else tv j, by go_num, hbB, X3.out, X2.out, X1.out⟩
          case measure => simp [intOf]; omega
    · obtain rfl : B = b := by omega
      have hnB : Ck ≤ 600 := by omega
      have e5 := E5.out
      go_wp2_with fail
      clear e5
      obtain ⟨bx, hbx⟩ : ∃ bx, w.heap.size = bx := ⟨_, rfl⟩
      rw [hbx] at E5 E6 hb4 ⊢
      have I4 : Hid (Ig w1 w4 x (vs data)) := Lib.hid ⟨I3.out.own.keep HBUT.out (fun k hk e => by have := HXB.out k hk; omega), I3.out.bel.trans (HBUT.out.below I3.out.bel.size (fun k hk e => by have := HTB1.out; omega))⟩
      go_loopw [5, 51] (fun s5 s51 wr => ∃ (z : Value) (t : Nat), z = s5 ∧ s51 = .int .i64 t ∧ t ≤ Ck ∧ Ig w1 wr z (vs (data ++ (List.range t).map (tailF data B n))) ∧ But (fun c => x.ownBlock = some c) w4 wr ∧ (z.ownBlock = x.ownBlock ∨ ∀ c, z.ownBlock = some c → w4.heap.size ≤ c)) (fun _ s51 _ => Ck - (intOf s51).toNat)
      case atStart => exact ⟨x, 0, rfl, rfl, Nat.zero_le _, by rw [List.range_zero, List.map_nil, List.append_nil]; exact I4.out, But.refl _ _, .inl rfl⟩
      case round =>
        clear I4
        obtain ⟨z, t, rfl, rfl, ht, hig, hbt2, hown⟩ := hrel
        obtain ⟨w5, rfl⟩ : ∃ w5 : World, w5 = wr := ⟨_, rfl⟩
        by_cases htC : t < Ck
        · obtain ⟨q, hq⟩ : ∃ q, t / B = q := ⟨_, rfl⟩
          obtain ⟨m, hm⟩ : ∃ m, t % B = m := ⟨_, rfl⟩
          have hqn : q < n := by rw [← hq]; exact Nat.div_lt_of_lt_mul (by rw [Nat.mul_comm, ← CN.out]; exact htC)
          have hmB : m < B := by rw [← hm]; exact Nat.mod_lt _ hb0.1
          have hIq : (t : Int).tdiv (B : Int) = (q : Int) := by rw [← hq]; rfl
          have hIm : (t : Int).tmod (B : Int) = (m : Int) := by rw [← hm]; rfl
          have hB0 : ¬ B = 0 := by omega
          have hqn2 : q ≤ 1000 := by omega
          obtain ⟨gm, cm, htv, hgm1, hgm2, hgm3⟩ := HRD.out m hmB
          rw [chk_len] at htv hgm3
          have hx5 : ∀ c, x.ownBlock = some c → bx < c ∧ c < tb := fun c hc => by have := HXB.out c hc; omega
          have htail : tailF data B n t = hi (chk (blk data B m) n) q := by unfold tailF; rw [hq, hm]
          have e6 := (hbt2.cell (p := ⟨bx, 6, none⟩) hb4 (fun e => by have := hx5 bx e; omega)).trans E6.out
          have c1 := (hbt2.row HROW.out (fun e => by have := hx5 tb e; omega)).cell hmB
          rw [if_pos hmB, htv] at c1
          have c2 := (hbt2.cell (p := ⟨gm, q, none⟩) hgm2 (fun e => by have := hx5 gm e; omega)).trans (hgm3 q hqn)
          have hl : vs (data ++ (List.range (t + 1)).map (tailF data B n)) = vs (data ++ (List.range t).map (tailF data B n)) ++ [(hi (chk (blk data B m) n) q).v] := by
            unfold vs
            rw [List.range_succ, List.map_append, List.map_append, List.map_append, List.map_append, List.append_assoc, ← htail]; rfl
          have hlen : (vs (data ++ (List.range t).map (tailF data B n))).length ≤ 3000 := by
            rw [List.length_map, List.length_append, List.length_map, List.length_range, HD.out]; omega
          generalize hi (chk (blk data B m) n) q = d at c2 hl
          generalize vs (data ++ (List.range t).map (tailF data B n)) = L at hig hl hlen
          have HL := Lib.hid hl; clear hl
          have HQ := Lib.hid hq; clear hq
          have HM := Lib.hid hm; clear hm
          clear htail hgm3 htv
          have IG := Lib.hid hig; clear hig
          have B5 := Lib.hid hbt2; clear hbt2
          have HOW := Lib.hid hown; clear hown
          have HX5 := Lib.hid hx5; clear hx5
          go_upto_region 16 with fail
          have hIq3 : IntKind.i64.wrap (q : Int) = (q : Int) := wI q hqn2
          go_region_law (go_loud (refine step_appV rfl (.tmp 54) (.tmp 68) 22 3 rfl Tryz.underlying22 (.int .i64 0) 8 infoI rfl (by decide) w1.heap.size z (L.map num) rfl (IG.out.newDN _ _) ⟨w5.heap.size, 0, none⟩ 1 1 [_] rfl rfl (cell_one_newD w5 _ _ _) (one_i64 _) (IG.out.room (Nat.le_trans hlen (by decide))) (IG.out.bsDN _ _) ?_; intro z' w2 H))
          all_goals
            clear hIq3
            have IG2 := Lib.hid (IG.out.appDN (c := d.v) H.out rfl)
            have ON := own_next H.out B5.out HOW.out (((But.refl _ w5).thenAlloc _).thenDn 1)
            go_wp2
            go_roundw
            case rel => exact ⟨z', t + 1, rfl, by go_num, htC, by rw [HL.out]; exact IG2.out, ON.1, ON.2⟩
            case measure => simp [intOf]; omega
        · obtain rfl : Ck = t := by omega
          have hw : wordsF data B n = data ++ (List.range Ck).map (tailF data B n) := by unfold wordsF; rw [CN.out]
          have IG := Lib.hid hig; clear hig
          have B5 := Lib.hid hbt2; clear hbt2
          go_wp2
          go_ret
          rw [hw]
          exact ⟨z, rfl, IG.out.own.base (by omega), (z1.out.2).trans (IG.out.bel.mono (by omega))⟩
end Go.Proofs.YtcnallabiffemaaGreatDoor
namespace Go.Proofs.YtcnallabiffemaaGreatDoor
open Go.RowKit (wrap32 wrap64 intOf Hid Below)
open Zx

theorem sh2_bs : ∀ v, v < 27 → ((#[33, 34, 35, 36, 37, 38, 39, 40, 41, 42, 43, 44, 45, 46, 47, 58, 59, 60, 61, 62, 63, 64, 91, 92, 93, 94, 95] : Array UInt8)[v]?).map UInt8.toNat = some (sh2 v) := by decide +kernel

theorem shiftC (w : World) (mode set v : Nat) (hm : 1 ≤ mode ∧ mode ≤ 3) (hs : 1 ≤ set ∧ set ≤ 3) (hv : v < 32) : Calls Tryz.prog 76 #[.int .i64 mode, .int .i64 set, .int .i64 v] w fun e w' => e = .returned (.tuple #[byt (shB (mode + 1) set v).1, .bool (shB (mode + 1) set v).2]) ∧ w = w' := by
  have hx : mode = 1 ∨ mode = 2 ∨ mode = 3 := by omega
  have hy : set = 1 ∨ set = 2 ∨ set = 3 := by omega
  rcases hy with rfl | rfl | rfl
  · have e1 : shB (mode + 1) 1 v = (v, true) := by unfold shB; rw [if_pos rfl, decide_eq_true hv]
    rw [e1]
    clear e1
    go_enter Tryz.func76, Tryz.ntmps76
    go_wp2
    go_ret2
    exact ⟨ret_bb (by omega) (by first | rfl | (simp; done) | (simp; omega)), rfl⟩
  · by_cases h27 : v < 27
    · have e1 : shB (mode + 1) 2 v = (sh2 v, true) := by unfold shB; rw [if_neg (by omega), if_pos ⟨rfl, h27⟩]
      rw [e1]
      clear e1
      have e2 := sh2_bs v h27
      go_enter Tryz.func76, Tryz.ntmps76
      obtain ⟨a, ha, hb⟩ := Option.map_eq_some_iff.1 e2
      obtain ⟨hlt, hget⟩ := Array.getElem?_eq_some_iff.1 ha
      have E3 := Lib.hid ((congrArg UInt8.toNat hget).trans hb)
      clear e2 ha hb hget
      go_wp2
      go_ret2
      exact ⟨ret_bb (congrArg (fun x : Nat => (x : Int)) E3.out) rfl, rfl⟩
    · have e1 : shB (mode + 1) 2 v = (0, false) := by unfold shB; rw [if_neg (by omega), if_neg (by omega), if_neg (by omega)]
      rw [e1]
      clear e1
      go_enter Tryz.func76, Tryz.ntmps76
      go_wp2
      go_ret2
      exact ⟨rfl, rfl⟩
  · have e1 : shB (mode + 1) 3 v = (sh3 (mode + 1) v, true) := by unfold shB; rw [if_neg (by omega), if_neg (by omega), if_pos ⟨rfl, hv⟩]
    rw [e1]
    clear e1
    by_cases hz : mode = 2 ∧ 1 ≤ v ∧ v ≤ 26
    · have e2 : sh3 (mode + 1) v = v + 64 := by unfold sh3; rw [if_pos (by omega)]
      rw [e2]
      clear e2
      obtain ⟨rfl, hz1, hz2⟩ := hz
      go_enter Tryz.func76, Tryz.ntmps76
      go_wp2
      go_ret2
      exact ⟨ret_bb (by omega) (by first | rfl | (simp; done) | (simp; omega)), rfl⟩
    · have e2 : sh3 (mode + 1) v = v + 96 := by unfold sh3; rw [if_neg (by omega)]
      rw [e2]
      clear e2
      by_cases h2 : mode = 2
      · subst h2
        by_cases h0 : v = 0
        · subst h0
          go_enter Tryz.func76, Tryz.ntmps76
          go_wp2
          go_ret2
          exact ⟨rfl, rfl⟩
        · go_enter Tryz.func76, Tryz.ntmps76
          go_wp2
          go_ret2
          exact ⟨ret_bb (by omega) (by first | rfl | (simp; done) | (simp; omega)), rfl⟩
      · have q2 := int_bf (a := (mode : Int)) (b := 2) (by omega)
        go_enter Tryz.func76, Tryz.ntmps76
        go_wp2
        go_ret2
        exact ⟨ret_bb (by omega) (by first | rfl | (simp; done) | (simp; omega)), rfl⟩
end Go.Proofs.YtcnallabiffemaaGreatDoor
namespace Go.Proofs.YtcnallabiffemaaGreatDoor
open Go.RowKit (wrap32 wrap64 intOf Hid Below)
open Zx

def setsL (m c : Nat) : Nat → Nat → List Nat
  | _, 0 => []
  | set, n + 1 => match srch (fun v => hitB c (shB m set v)) 0 32 with
    | some v => [set - 1, v]
    | none => setsL m c (set + 1) n
theorem valsL_eq (m c : Nat) : valsL m c = match srch (fun v => hitB c (basB m v)) 0 40 with
    | some v => [v]
    | none => if m = 4 then [] else setsL m c 1 3 := rfl

/-- where a search stands -/
def SrAt (f : Nat → Bool) (n k : Nat) : Prop := k ≤ n ∧ srch f 0 n = srch f k (n - k)
theorem SrAt.start (f : Nat → Bool) (n : Nat) : SrAt f n 0 := ⟨Nat.zero_le _, rfl⟩
theorem SrAt.hit {f : Nat → Bool} {n k : Nat} (h : SrAt f n k) (hk : k < n) (hf : f k = true) : srch f 0 n = some k := by
  rw [h.2, show n - k = (n - k - 1) + 1 by omega, srch, if_pos hf]
theorem SrAt.miss {f : Nat → Bool} {n k : Nat} (h : SrAt f n k) (hk : k < n) (hf : f k = false) : SrAt f n (k + 1) := by
  refine ⟨hk, ?_⟩
  rw [h.2, show n - k = (n - (k + 1)) + 1 by omega, srch, if_neg (by rw [hf]; decide)]
theorem SrAt.none {f : Nat → Bool} {n : Nat} (h : SrAt f n n) : srch f 0 n = none := by
  rw [h.2, Nat.sub_self, srch]

/-- the values of a character, as a slice -/
def ValTo (w : World) (L : List Nat) (e : Ending) (w' : World) : Prop :=
  ∃ v, e = .returned v ∧ ((L = [] ∧ v = .slice none 0 0) ∨ (L ≠ [] ∧ ∃ g, v = .slice (some ⟨g, 0, none⟩) L.length L.length ∧ w.heap.size ≤ g ∧ g < w'.heap.size ∧ ∀ (j : Nat) (u : Value), (L.map num)[j]? = some u → w'.cell? ⟨g, j, none⟩ = some u)) ∧ Below w.heap.size w w'

theorem valTo_nil (w : World) : ValTo w [] (.returned (.slice none 0 0)) w := ⟨_, rfl, .inl ⟨rfl, rfl⟩, Below.refl _ _⟩
theorem valTo_one (w : World) (a : Nat) : ValTo w [a] (.returned (.slice (some ⟨w.heap.size, 0, none⟩) 1 1)) (w.alloc (.cells #[num a] 3)) :=
  ⟨_, rfl, .inr ⟨by simp, _, rfl, Nat.le_refl _, by rw [World.size_alloc]; omega, fun j u hu => by
    match j, hu with
    | 0, hu => simp at hu; rw [World.cell?_alloc_new]; simp [hu]⟩, (Below.refl _ _).alloc (Nat.le_refl _) _⟩
theorem valTo_two (w : World) (a b : Nat) : ValTo w [a, b] (.returned (.slice (some ⟨w.heap.size, 0, none⟩) 2 2)) (w.alloc (.cells #[num a, num b] 3)) :=
  ⟨_, rfl, .inr ⟨by simp, _, rfl, Nat.le_refl _, by rw [World.size_alloc]; omega, fun j u hu => by
    match j, hu with
    | 0, hu => simp at hu; rw [World.cell?_alloc_new]; simp [hu]
    | 1, hu => simp at hu; rw [World.cell?_alloc_new]; simp [hu]⟩, (Below.refl _ _).alloc (Nat.le_refl _) _⟩

theorem sb_lt : ∀ m set v, v < 32 → (shB m set v).1 < 256 := by
  intro m set v hv
  have h1 : sh2 v < 256 := by unfold sh2; (repeat' split) <;> omega
  have h2 : sh3 m v < 256 := by unfold sh3; split <;> omega
  unfold shB
  (repeat' split) <;> first | exact h1 | exact h2 | (show _ < 256; omega) | decide
theorem ba_lt : ∀ m v, m < 5 → v < 40 → (basB m v).1 < 256 := by
  intro m v _ hv
  have := ch_lt0 v hv
  unfold basB
  repeat' split
  all_goals first | omega | exact this
  where ch_lt0 : ∀ v, v < 40 → x12c v < 256 := by intro v hv; unfold x12c; (repeat' split) <;> omega

set_option maxRecDepth 100000 in
set_option maxHeartbeats 2000000 in
theorem valuesC (w : World) (mode c : Nat) (hm : 1 ≤ mode ∧ mode ≤ 3) (hc : c < 256) : Calls Tryz.prog 46 #[.int .i64 mode, .int .u8 c] w (ValTo w (valsL (mode + 1) c)) := by
  have hve := valsL_eq (mode + 1) c
  have HVE := Lib.hid hve; clear hve
  go_enter Tryz.func46, Tryz.ntmps46
  go_wp2_with fail
  go_loopw [12] (fun s12 wr => ∃ k : Nat, SrAt (fun v => hitB c (basB (mode + 1) v)) 40 k ∧ s12 = .int .i64 k ∧ wr = w) (fun s12 _ => 40 - (intOf s12).toNat)
  case atStart => exact ⟨0, SrAt.start _ _, rfl, by first | rfl | trivial⟩
  case round =>
    obtain ⟨k, hk, rfl, hwr⟩ := hrel
    rw [hwr]; clear hwr wr
    have hk40 := hk.1
    have HK := Lib.hid hk; clear hk
    by_cases hk4 : k < 40
    · go_wp2_with fail
      refine (basicC w mode k hm hk4).mono ?_
      rintro e w' ⟨rfl, hw⟩
      obtain rfl := hw
      have hx := ba_lt (mode + 1) k (by omega) hk4
      obtain ⟨x, hx'⟩ : ∃ x, basB (mode + 1) k = x := ⟨_, rfl⟩
      rw [hx'] at hx ⊢
      obtain ⟨a, b⟩ := x
      have HX := Lib.hid hx'; clear hx'
      simp only at hx ⊢
      cases b
      · go_wp2
        go_roundw
        case rel => exact ⟨k + 1, HK.out.miss hk4 (by show hitB c (basB (mode + 1) k) = false; rw [HX.out]; rfl), by go_num, by first | rfl | trivial⟩
        case measure => simp [intOf]; omega
      · by_cases hac : a = c
        · subst hac
          have hs := HK.out.hit hk4 (by show hitB a (basB (mode + 1) k) = true; rw [HX.out]; simp [hitB])
          have hv : valsL (mode + 1) a = [k] := by rw [HVE.out, hs]
          have HV := Lib.hid hv; clear hv hs
          have q := int_bt (a := (a : Int)) (b := (a : Int)) rfl
          go_wp2
          go_ret
          rw [HV.out]
          exact valTo_one w k
        · have q := int_bf (a := (a : Int)) (b := (c : Int)) (by omega)
          go_wp2
          go_roundw
          case rel => exact ⟨k + 1, HK.out.miss hk4 (by show hitB c (basB (mode + 1) k) = false; rw [HX.out]; simp [hitB, hac]), by go_num, by first | rfl | trivial⟩
          case measure => simp [intOf]; omega
    · obtain rfl : k = 40 := by omega
      have hs := HK.out.none
      have hv : valsL (mode + 1) c = if mode + 1 = 4 then [] else setsL (mode + 1) c 1 3 := by rw [HVE.out, hs]
      have HV := Lib.hid hv; clear hv hs HK
      rw [show ((40 : Nat) : Int) = 40 from rfl]
      by_cases h3 : mode = 3
      · subst h3
        rw [if_pos rfl] at HV
        go_wp2_with fail
        go_loopw [8] (fun s8 wr => s8 = .int .i64 1 ∧ wr = w) (fun _ _ => 0)
        case atStart => exact ⟨rfl, by first | rfl | trivial⟩
        case round =>
          obtain ⟨rfl, hwr⟩ := hrel
          rw [hwr]; clear hwr wr
          go_wp2
          go_ret
          rw [HV.out]
          exact valTo_nil w
      · rw [if_neg (by omega)] at HV
        have q3 := int_nt (a := (mode : Int)) (b := 3) (by omega)
        go_wp2_with fail
        go_loopw [8] (fun s8 wr => ∃ set : Nat, 1 ≤ set ∧ set ≤ 4 ∧ valsL (mode + 1) c = setsL (mode + 1) c set (4 - set) ∧ s8 = .int .i64 set ∧ wr = w) (fun s8 _ => 4 - (intOf s8).toNat)
        case atStart => exact ⟨1, by decide, by decide, HV.out, rfl, by first | rfl | trivial⟩
        case round =>
          clear HV
          obtain ⟨set, hs1, hs4, hv, rfl, hwr⟩ := hrel
          rw [hwr]; clear hwr wr
          have HV := Lib.hid hv; clear hv
          by_cases hs : set < 4
          · go_wp2_with fail
            go_loopw [38] (fun s38 wr => ∃ k : Nat, SrAt (fun v => hitB c (shB (mode + 1) set v)) 32 k ∧ s38 = .int .i64 k ∧ wr = w) (fun s38 _ => 32 - (intOf s38).toNat)
            case atStart => exact ⟨0, SrAt.start _ _, rfl, by first | rfl | trivial⟩
            case round =>
              obtain ⟨k, hk, rfl, hwr⟩ := hrel
              rw [hwr]; clear hwr wr
              have hk32 := hk.1
              have HK := Lib.hid hk; clear hk
              by_cases hk4 : k < 32
              · go_wp2_with fail
                refine (shiftC w mode set k hm ⟨hs1, by omega⟩ hk4).mono ?_
                rintro e w' ⟨rfl, hw⟩
                obtain rfl := hw
                have hx := sb_lt (mode + 1) set k hk4
                obtain ⟨x, hx'⟩ : ∃ x, shB (mode + 1) set k = x := ⟨_, rfl⟩
                rw [hx'] at hx ⊢
                obtain ⟨a, b⟩ := x
                have HX := Lib.hid hx'; clear hx'
                simp only at hx ⊢
                cases b
                · go_wp2
                  go_roundw
                  case rel => exact ⟨k + 1, HK.out.miss hk4 (by show hitB c (shB (mode + 1) set k) = false; rw [HX.out]; rfl), by go_num, by first | rfl | trivial⟩
                  case measure => simp [intOf]; omega
                · by_cases hac : a = c
                  · subst hac
                    have hs2 := HK.out.hit hk4 (by show hitB a (shB (mode + 1) set k) = true; rw [HX.out]; simp [hitB])
                    have hv : valsL (mode + 1) a = [set - 1, k] := by rw [HV.out, show 4 - set = (4 - set - 1) + 1 by omega, setsL, hs2]
                    have HV2 := Lib.hid hv; clear hv hs2
                    have q := int_bt (a := (a : Int)) (b := (a : Int)) rfl
                    have e1 : (set : Int) - 1 = ((set - 1 : Nat) : Int) := by omega
                    go_wp2
                    go_ret
                    rw [HV2.out]
                    exact valTo_two w (set - 1) k
                  · have q := int_bf (a := (a : Int)) (b := (c : Int)) (by omega)
                    go_wp2
                    go_roundw
                    case rel => exact ⟨k + 1, HK.out.miss hk4 (by show hitB c (shB (mode + 1) set k) = false; rw [HX.out]; simp [hitB, hac]), by go_num, by first | rfl | trivial⟩
                    case measure => simp [intOf]; omega
              · obtain rfl : k = 32 := by omega
                have hs2 := HK.out.none
                have hv : valsL (mode + 1) c = setsL (mode + 1) c (set + 1) (4 - (set + 1)) := by rw [HV.out, show 4 - set = (4 - (set + 1)) + 1 by omega, setsL, hs2]
                have HV2 := Lib.hid hv; clear hv hs2 HK
                go_wp2
                go_roundw
                case rel => exact ⟨set + 1, by omega, by omega, HV2.out, by go_num, by first | rfl | trivial⟩
                case measure => simp [intOf]; omega
          · obtain rfl : set = 4 := by omega
            go_wp2
            go_ret
            rw [HV.out]
            exact valTo_nil w
end Go.Proofs.YtcnallabiffemaaGreatDoor
namespace Go.Proofs.YtcnallabiffemaaGreatDoor
open Go.RowKit (wrap32 wrap64 intOf Hid Below)
open Zx
open Go.Maps


theorem law3 : Keyed Tryz.prog 3 := int_keyed Tryz.underlying3
theorem zero3 (w : World) : (zeroValue 3).run Tryz.prog w = .ok (.int .i64 0) w := by kernel_rfl
theorem wpList_ins {P : Program} (w : World) {ops : Array Oper} {rest : List Oper} {o : Oper} {a : Act} {Q : Exit → Act → World → Prop}
    (hg : o.guard = none) (m x v : Operand) (t : TypeId) (hop : o.op = Op.insert t m x v)
    (k e : TypeId) (K : Keyed P k) (ht : P.underlying t = some (.map k e)) (R : Value → Option (DataW Unit × List MemPlace)) (b n : Nat) (D : DataW Unit)
    (hm : a.eval m = .map (some b)) (hown : w.ownsMap P k R b n D) (hn : n < maxLen) (key val : Value) (kl : Lit) (hx : a.eval x = key) (hv : a.eval v = val) (hkey : keyOf P k key = some kl)
    (d : DataW Unit) (ps : List MemPlace) (hval : R val = some (d, ps))
    (hK : ∀ w', Hid (w'.ownsMap P k R b (n + 1) (D.put kl d)) → Hid (w.grownBy w' (some b)) → wpList P ops Q rest (a.put o.dst undef) w') :
    wpList P ops Q (o :: rest) a w := by
  refine wpList_plain hg fun K' hK' => ?_
  obtain ⟨w', hrun, r1, r2⟩ := hown.update K ht hn hkey hval
  unfold Oper.wp
  simp [execOp, hop, hm, hx, hv, hrun, Result.andThen]
  exact hK' _ _ (hK w' (Lib.hid r1) (Lib.hid r2))

def latchD : DataW Unit := (((DataW.map []).put (.int .i64 1) (.lit (.int .i64 230))).put (.int .i64 2) (.lit (.int .i64 239))).put (.int .i64 3) (.lit (.int .i64 238))
theorem latch_at (mode : Nat) (hm : 1 ≤ mode ∧ mode ≤ 3) (c : Int) (h : latchD.atKey (.int .i64 mode) (.lit (.int .i64 0)) = .lit (.int .i64 c)) : c = latchN mode := by
  have hx : mode = 1 ∨ mode = 2 ∨ mode = 3 := by omega
  rcases hx with rfl | rfl | rfl
  · have e : latchD.atKey (.int .i64 ((1 : Nat) : Int)) (.lit (.int .i64 0)) = .lit (.int .i64 230) := by rfl
    rw [e] at h; cases h; rfl
  · have e : latchD.atKey (.int .i64 ((2 : Nat) : Int)) (.lit (.int .i64 0)) = .lit (.int .i64 239) := by rfl
    rw [e] at h; cases h; rfl
  · have e : latchD.atKey (.int .i64 ((3 : Nat) : Int)) (.lit (.int .i64 0)) = .lit (.int .i64 238) := by rfl
    rw [e] at h; cases h; rfl

theorem valsT_app (m : Nat) (s t : List Nat) : valsT m (s ++ t) = valsT m s ++ valsT m t := by simp [valsT]
theorem valsT_pre (m : Nat) (s : List Nat) (a b : Nat) (h : a ≤ b) : valsT m (s.take a) = (valsT m (s.take b)).take (valsT m (s.take a)).length := by
  have e : s.take b = s.take a ++ (s.take b).drop a := by
    conv => lhs; rw [← List.take_append_drop a (s.take b)]
    rw [List.take_take, Nat.min_eq_left h]
  conv => rhs; rw [e, valsT_app]
  rw [List.take_left' rfl]
theorem cell_two_new (w : World) (x y : Value) (t : TypeId) : ∀ j u, [x, y][j]? = some u → (w.alloc (.cells #[x, y] t)).cell? ((⟨w.heap.size, 0, none⟩ : Addr).add j) = some u := by
  intro j u hu
  rw [addr_add, Nat.zero_add, World.cell?_alloc_new]
  match j, hu with
  | 0, hu => simpa using hu
  | 1, hu => simpa using hu
theorem two_i64 (x y : Int) : ∀ u ∈ [Value.int .i64 x, .int .i64 y], u.oneCell' = true := by intro u hu; simp at hu; rcases hu with rfl | rfl <;> rfl
theorem Ig.app2 {w wr w' : World} {x x' : Value} {l : List Nat} {ob : Obj} {X Y : Value} {c d : Nat} (h : Ig w wr x l) (ha : AppTo (wr.alloc ob) w' 3 w.heap.size x x' (l.map num ++ [X, Y])) (hX : X = num c) (hY : Y = num d) : Ig w w' x' (l ++ [c, d]) := by
  have t := ha.toA
  refine ⟨by have := ha.own; rw [hX, hY] at this; rw [show OwnI w' w.heap.size x' (l ++ [c, d]) = OwnV w' 3 w.heap.size x' ((l ++ [c, d]).map num) from rfl, List.map_append]; exact this, h.bel.trans (t.below h.own h.bel.size)⟩

set_option maxRecDepth 100000 in
set_option maxHeartbeats 4000000 in
theorem segT (w : World) (s : ByteArray) (mode behind : Nat) (hm : 1 ≤ mode ∧ mode ≤ 3) (hs : s.size ≤ 1000) (h128 : ∀ c ∈ chs s, c < 128) : Calls Tryz.prog 19 #[.string s, .int .i64 mode, .int .i64 behind] w (SegTo1 w behind (chs s)) := by
  have H128 := Lib.hid h128; clear h128
  have q0 := int_bf (a := (mode : Int)) (b := 0) (by omega)
  have q4 := int_bf (a := (mode : Int)) (b := 4) (by omega)
  have q5 := int_bf (a := (mode : Int)) (b := 5) (by omega)
  go_enter Tryz.func19, Tryz.ntmps19
  go_upto_region 10 with fail
  clear q0 q4 q5
  go_cut [38, 39] from 37 to 39 (fun s38 s39 wx => s38 = .int .i64 s.size ∧ s39 = .int .i64 0 ∧ wx = w)
  case first => (go_wp2; go_meet; exact ⟨rfl, rfl, rfl⟩)
  obtain ⟨rfl, rfl, hwc⟩ := hcut
  rw [hwc]; clear hwc wc
  apply_assumption
  go_cut [8, 10, 11] from 40 to 61 (fun s8 s10 s11 wx => ∃ (x : Value) (i wh : Nat), x = s8 ∧ i ≤ s.size ∧ wh ≤ i ∧ s10 = .int .i64 wh ∧ s11 = .int .i64 ((valsT (mode + 1) ((chs s).take wh)).length : Nat) ∧ (∀ c ∈ (chs s).take i, valsL (mode + 1) c ≠ []) ∧ (valsT (mode + 1) ((chs s).take wh)).length % 3 = 0 ∧ Ig w wx x (valsT (mode + 1) ((chs s).take i)))
  case first =>
    go_wp2_with fail
    go_loopw [8, 10, 11, 39] (fun s8 s10 s11 s39 wr => ∃ (x : Value) (i wh : Nat), x = s8 ∧ i ≤ s.size ∧ wh ≤ i ∧ s10 = .int .i64 wh ∧ s11 = .int .i64 ((valsT (mode + 1) ((chs s).take wh)).length : Nat) ∧ s39 = .int .i64 i ∧ (∀ c ∈ (chs s).take i, valsL (mode + 1) c ≠ []) ∧ (valsT (mode + 1) ((chs s).take wh)).length % 3 = 0 ∧ Ig w wr x (valsT (mode + 1) ((chs s).take i))) (fun _ _ _ s39 _ => s.size - (intOf s39).toNat)
    case atStart => exact ⟨_, 0, 0, rfl, Nat.zero_le _, Nat.le_refl _, rfl, rfl, rfl, fun c hc => by simp at hc, rfl, Ig.nil w⟩
    case round =>
      obtain ⟨x, i, wh, rfl, hi, hwh, rfl, hf, rfl, hall, h3, hig⟩ := hrel
      obtain ⟨F, hF⟩ : ∃ F, (valsT (mode + 1) ((chs s).take wh)).length = F := ⟨_, rfl⟩
      rw [hF] at hf h3
      obtain rfl := hf
      obtain ⟨V, hV⟩ : ∃ V, valsT (mode + 1) ((chs s).take i) = V := ⟨_, rfl⟩
      have hvl : V.length ≤ 2 * i := by
        have := (valsT_ok (mode + 1) ((chs s).take i) (by omega) (fun c hc => ⟨H128.out c (List.mem_of_mem_take hc), hall c hc⟩)).2.2
        rw [List.length_take, hV] at this; omega
      rw [hV] at hig
      obtain ⟨w1, rfl⟩ : ∃ w1 : World, w1 = wr := ⟨_, rfl⟩
      have IG := Lib.hid hig; clear hig
      have HF := Lib.hid (And.intro hF h3); clear hF h3
      have HV := Lib.hid hV; clear hV
      have HALL := Lib.hid hall; clear hall
      by_cases his : i < s.size
      · have htk := take_snoc s i his
        have hmem : (s[i]).toNat ∈ chs s := List.mem_of_getElem? (chs_at s i his)
        obtain ⟨c, hc⟩ : ∃ c, (s[i]).toNat = c := ⟨_, rfl⟩
        rw [hc] at htk hmem
        have hc128 := H128.out c hmem
        have HTK := Lib.hid htk; clear htk hmem
        go_wp2_with fail
        refine (valuesC w1 mode c hm (by omega)).mono ?_
        rintro e w2 ⟨v, rfl, hv, hb⟩
        have IG2 := Lib.hid (IG.out.below hb); clear IG
        obtain ⟨L, hL⟩ : ∃ L, valsL (mode + 1) c = L := ⟨_, rfl⟩
        rw [hL] at hv
        have HL := Lib.hid hL; clear hL
        rcases hv with ⟨rfl, rfl⟩ | ⟨hne, g, rfl, hg1, hg2, hcells⟩
        · have hnl : ∀ w, (binOp .eql 22 (.slice none 0 0) (.slice none 0 0)).run Tryz.prog w = .ok (.bool true) w := fun w => Lib.run_eql_slice_nil w 22 3 _ 0 0 0 0 Tryz.underlying22
          clear hb
          go_wp2
          go_meet
          exact ⟨x, i, wh, rfl, hi, hwh, rfl, by rw [HF.out.1], HALL.out, by rw [HF.out.1]; exact HF.out.2, by rw [HV.out]; exact IG2.out⟩
        · have hlo := valsL_ok (mode + 1) c (by omega) hc128 (by rw [HL.out]; exact hne)
          rw [HL.out] at hlo
          have hll := hlo.2.2
          have HLO := Lib.hid hlo; clear hlo
          obtain ⟨n, hn⟩ : ∃ n, L.length = n := ⟨_, rfl⟩
          rw [hn] at hll ⊢
          have HN := Lib.hid hn; clear hn
          have hnl : ∀ w, (binOp .eql 22 (.slice (some ⟨g, 0, none⟩) n n) (.slice none 0 0)).run Tryz.prog w = .ok (.bool false) w := fun w => Lib.run_eql_slice_nil w 22 3 _ n n 0 0 Tryz.underlying22
          have hc2 : ∀ (j : Nat) (u : Value), (L.map num)[j]? = some u → w2.cell? ((⟨g, 0, none⟩ : Addr).add j) = some u := fun j u hu => by
            rw [addr_add, Nat.zero_add]; exact hcells j u hu
          have HC := Lib.hid hc2; clear hc2 hcells hb
          go_wp2_with (at_builtin; refine wpList_appV rfl (.tmp 49) (.tmp 50) 22 3 rfl Tryz.underlying22 (.int .i64 0) 8 infoI rfl (by decide) w.heap.size x (V.map num) rfl IG2.out.own ⟨g, 0, none⟩ n n (L.map num) rfl (by rw [List.length_map, HN.out]) HC.out (num_one _) (by rw [List.length_map]; omega) (IG2.out.bel.size) ?_)
          intro x' w3 H
          have i3 := Ig.appL IG2.out H.out
          have hv2 : valsT (mode + 1) ((chs s).take (i + 1)) = V ++ L := by rw [HTK.out, valsT_snoc, HV.out, HL.out]
          have hr3 := i3.rd (by intro h; have := congrArg List.length h; rw [List.length_append, HN.out] at this; simp at this; exact hne (List.eq_nil_of_length_eq_zero (by rw [HN.out]; omega)))
          obtain ⟨g3, cap3, rfl, _, _⟩ := hr3
          rw [List.length_append, HN.out] at i3 ⊢
          obtain ⟨N, hNN⟩ : ∃ N, V.length + n = N := ⟨_, rfl⟩
          rw [hNN] at i3 ⊢
          have I3 := Lib.hid i3; clear i3 H IG2
          have HV2 := Lib.hid hv2; clear hv2
          have HNN := Lib.hid hNN; clear hNN
          have hall2 : ∀ d ∈ (chs s).take (i + 1), valsL (mode + 1) d ≠ [] := fun d hd => by
            rw [HTK.out] at hd
            rcases List.mem_append.1 hd with h | h
            · exact HALL.out d h
            · simp at h; rw [h, HL.out]; exact hne
          have HALL2 := Lib.hid hall2; clear hall2 HALL
          have hNl : N ≤ 5000 := by rw [← HNN.out]; omega
          by_cases h3 : N % 3 = 0
          · have e3 : (N : Int) % 3 = 0 := by omega
            have H3 := Lib.hid h3; clear h3
            go_wp2
            go_roundw
            case rel => exact ⟨_, i + 1, i + 1, rfl, his, Nat.le_refl _, by go_num, by rw [HV2.out, List.length_append, HN.out, HNN.out], by go_num, HALL2.out, by rw [HV2.out, List.length_append, HN.out, HNN.out]; exact H3.out, by rw [HV2.out]; exact I3.out⟩
            case measure => simp [intOf]; omega
          · have e3 := int_bf (a := (N : Int) % 3) (b := 0) (by omega)
            clear h3
            go_wp2
            go_roundw
            case rel => exact ⟨_, i + 1, wh, rfl, his, by omega, rfl, by rw [HF.out.1], by go_num, HALL2.out, by rw [HF.out.1]; exact HF.out.2, by rw [HV2.out]; exact I3.out⟩
            case measure => simp [intOf]; omega
      · obtain rfl : i = s.size := by omega
        go_wp2
        go_meet
        exact ⟨x, s.size, wh, rfl, Nat.le_refl _, hwh, rfl, by rw [HF.out.1], HALL.out, by rw [HF.out.1]; exact HF.out.2, by rw [HV.out]; exact IG.out⟩
  obtain ⟨x, i, wh, rfl, hi, hwh, rfl, hf, hall, h3, hig⟩ := hcut
  obtain ⟨F, hF⟩ : ∃ F, (valsT (mode + 1) ((chs s).take wh)).length = F := ⟨_, rfl⟩
  rw [hF] at hf h3
  obtain rfl := hf
  obtain ⟨w1, rfl⟩ : ∃ w1 : World, w1 = wc := ⟨_, rfl⟩
  have IG := Lib.hid hig; clear hig
  have HF := Lib.hid hF; clear hF
  apply_assumption
  by_cases hF0 : F = 0
  · subst hF0
    clear h3
    go_wp2
    go_ret2
    exact ⟨0, [], Nat.zero_le _, ⟨_, rfl, OwnV.nil _ _ _, IG.out.bel⟩, fun h => absurd rfl h⟩
  · have q0 := int_bf (a := (F : Int)) (b := 0) (by omega)
    have hpre := valsT_pre (mode + 1) (chs s) wh i hwh
    rw [HF.out] at hpre
    have hvo := valsT_ok (mode + 1) ((chs s).take i) (by omega) (fun c hc => ⟨H128.out c (List.mem_of_mem_take hc), hall c hc⟩)
    have hok := triples_ok behind mode hm ((chs s).take wh) (fun c hc => ⟨H128.out c (List.mem_of_mem_take hc), hall c (by
      have e : (chs s).take wh = ((chs s).take i).take wh := by rw [List.take_take, Nat.min_eq_left hwh]
      rw [e] at hc; exact List.mem_of_mem_take hc)⟩) (by rw [HF.out]; exact h3)
    have hFl := (valsT_ok (mode + 1) ((chs s).take wh) (by omega) (fun c hc => ⟨H128.out c (List.mem_of_mem_take hc), hall c (by
      have e : (chs s).take wh = ((chs s).take i).take wh := by rw [List.take_take, Nat.min_eq_left hwh]
      rw [e] at hc; exact List.mem_of_mem_take hc)⟩)).2.2
    rw [HF.out, List.length_take, chs_len, Nat.min_eq_left (by omega)] at hFl
    obtain ⟨V, hV⟩ : ∃ V, valsT (mode + 1) ((chs s).take i) = V := ⟨_, rfl⟩
    rw [hV] at IG hpre hvo
    rw [hpre] at hok
    have hVF : F ≤ V.length := by
      have := congrArg List.length hpre
      rw [HF.out, List.length_take] at this; omega
    have hv40 := hvo.2.1
    have hVl : V.length ≤ 2000 := by have := hvo.2.2; rw [List.length_take, chs_len] at this; omega
    have hwh0 : wh ≠ 0 := by rintro rfl; have := HF.out; simp [valsT] at this; omega
    clear hpre hvo hV hall
    have HOK := Lib.hid hok; clear hok
    rcases (IG.out.rd (by intro h; rw [h] at hVF; simp at hVF; omega)) with ⟨g, cap, rfl, hg, hcells⟩
    have BW := Lib.hid IG.out.bel; clear IG
    have hget : ∀ j, j < V.length → V[j]? = some (V.getD j 0) := fun j hj => by rw [List.getD_eq_getElem?_getD, List.getElem?_eq_getElem hj]; rfl
    have hgv : ∀ j, j < V.length → V.getD j 0 < 40 := fun j hj => hv40 _ (List.mem_of_getElem? (hget j hj))
    have hrc : ∀ j, j < V.length → w1.cell? ⟨g, j, none⟩ = some (num (V.getD j 0)) := fun j hj => hcells j _ (by rw [List.getElem?_map, hget j hj]; rfl)
    have HGV := Lib.hid hgv; clear hgv
    have HRC := Lib.hid hrc; clear hrc hcells hget hv40
    have hmm := @Go.RowKit.run_makeMap Tryz.prog
    have om0 := Lib.hid (World.ownsMap_made w1 Tryz.prog 3 (plainElem (H := Unit) Tryz.prog 3))
    go_wp2_with (first | ((with_reducible show wpList _ _ _ (Oper.mk none (Op.insert 85 _ (Operand.const (Value.int IntKind.i64 1)) _) _ _ _ _ :: _) _ _); refine wpList_ins _ rfl _ _ _ 85 rfl 3 3 law3 Tryz.underlying85 _ w1.heap.size 0 _ rfl om0.out (by unfold maxLen; omega) _ _ _ rfl rfl (keyOf_int_mk Tryz.underlying3 (by decide)) _ [] (plainElem_int Tryz.underlying3 (by decide)) ?_; intro w2 om1 gr1) | ((with_reducible show wpList _ _ _ (Oper.mk none (Op.insert 85 _ (Operand.const (Value.int IntKind.i64 2)) _) _ _ _ _ :: _) _ _); refine wpList_ins _ rfl _ _ _ 85 rfl 3 3 law3 Tryz.underlying85 _ w1.heap.size 1 _ rfl om1.out (by unfold maxLen; omega) _ _ _ rfl rfl (keyOf_int_mk Tryz.underlying3 (by decide)) _ [] (plainElem_int Tryz.underlying3 (by decide)) ?_; intro w3 om2 gr2) | ((with_reducible show wpList _ _ _ (Oper.mk none (Op.insert 85 _ (Operand.const (Value.int IntKind.i64 3)) _) _ _ _ _ :: _) _ _); refine wpList_ins _ rfl _ _ _ 85 rfl 3 3 law3 Tryz.underlying85 _ w1.heap.size 2 _ rfl om2.out (by unfold maxLen; omega) _ _ _ rfl rfl (keyOf_int_mk Tryz.underlying3 (by decide)) _ [] (plainElem_int Tryz.underlying3 (by decide)) ?_; intro w4 om3 gr3) | (at_lookup; refine wpList_lookup_own_int _ rfl _ _ 85 rfl 3 3 .i64 law3 Tryz.underlying85 Tryz.underlying3 (zero3 _) w1.heap.size 3 _ rfl om3.out _ _ rfl (keyOf_int_mk Tryz.underlying3 (WalkArith.wf_i64 (by omega))) ?_; intro c hat hwc))
    obtain rfl : c = latchN mode := latch_at mode hm c hat
    have b4 : Below w1.heap.size w1 w4 := ((((Below.refl w1.heap.size w1).alloc (Nat.le_refl _) _).grown gr1.out (by rw [World.size_alloc]; omega) (fun k hk => by cases hk; exact Nat.le_refl _)).grown gr2.out (Nat.le_of_lt om1.out.lt) (fun k hk => by cases hk; exact Nat.le_refl _)).grown gr3.out (Nat.le_of_lt om2.out.lt) (fun k hk => by cases hk; exact Nat.le_refl _)
    have ll0 := Lib.hid (Ig.lit b4 (latchN mode))
    clear om0 om1 om2 om3 gr1 gr2 gr3 hat hwc hmm q0 b4
    go_loopw [14, 15] (fun s14 s15 wr => ∃ (y : Value) (t : Nat), y = s14 ∧ t ≤ F ∧ t % 3 = 0 ∧ s15 = .int .i64 t ∧ Ig w1 wr y (latchN mode :: tcw (V.take t))) (fun _ s15 _ => F - (intOf s15).toNat)
    case atStart => exact ⟨_, 0, rfl, Nat.zero_le _, rfl, rfl, ll0.out⟩
    case round =>
      clear ll0
      obtain ⟨y, t, rfl, ht, ht3, rfl, hig⟩ := hrel
      obtain ⟨w5, rfl⟩ : ∃ w5 : World, w5 = wr := ⟨_, rfl⟩
      obtain ⟨O, hO⟩ : ∃ O, latchN mode :: tcw (V.take t) = O := ⟨_, rfl⟩
      rw [hO] at hig
      have hol : O.length ≤ 3000 := by rw [← hO, List.length_cons, tcw_len, List.length_take]; omega
      have HO := Lib.hid hO; clear hO
      have IY := Lib.hid hig; clear hig
      have HT3 := Lib.hid ht3; clear ht3
      have H3 := Lib.hid h3; clear h3
      by_cases htF : t < F
      · have hts := tcw_take3 V t HT3.out (by have := HT3.out; have := H3.out; omega)
        have htV : t + 2 < V.length := by have := HT3.out; have := H3.out; omega
        have c0 := (IY.out.bel.cell (p := ⟨g, t, none⟩) hg).trans (HRC.out t (by omega))
        have c1 := (IY.out.bel.cell (p := ⟨g, t + 1, none⟩) hg).trans (HRC.out (t + 1) (by omega))
        have c2 := (IY.out.bel.cell (p := ⟨g, t + 2, none⟩) hg).trans (HRC.out (t + 2) (by omega))
        have v0 := HGV.out t (by omega)
        have v1 := HGV.out (t + 1) (by omega)
        have v2 := HGV.out (t + 2) (by omega)
        generalize V.getD t 0 = a at hts c0 v0
        generalize V.getD (t + 1) 0 = b at hts c1 v1
        generalize V.getD (t + 2) 0 = d at hts c2 v2
        have HTS := Lib.hid hts; clear hts
        obtain ⟨n, hn⟩ : ∃ n, V.length = n := ⟨_, rfl⟩
        rw [hn] at htV hVF hVl ⊢
        clear hn
        have i1 : ((t : Int) + 1).toNat = t + 1 := by omega
        have i2 : ((t : Int) + 2).toNat = t + 2 := by omega
        have j1 : (0 : Int) ≤ (t : Int) + 1 := by omega
        have j2 : (0 : Int) ≤ (t : Int) + 2 := by omega
        have k1 : (t : Int) + 1 < (n : Int) := by omega
        have k2 : (t : Int) + 2 < (n : Int) := by omega
        go_wp2_with fail
        go_quiet (fail)
        have IY1 := Lib.hid (IY.out.dn nq)
        clear c0 c1 c2 i1 i2 j1 j2 k1 k2
        go_wp2_with (at_builtin; refine wpList_appV rfl (.tmp 93) (.tmp 98) 22 3 rfl Tryz.underlying22 (.int .i64 0) 8 infoI rfl (by decide) w1.heap.size y (O.map num) rfl (IY1.out.new _) ⟨w5.heap.size, 0, none⟩ 2 2 [_, _] rfl rfl (cell_two_new (w5.drewN nq) _ _ _) (two_i64 _ _) (by rw [List.length_map]; omega) (IY1.out.bs _) ?_)
        intro y' w6 H
        have IY2 := Lib.hid (IY1.out.app2 (c := (1600 * a + 40 * b + d + 1) / 256) (d := (1600 * a + 40 * b + d + 1) % 256) H.out (val_int (by omega)) (val_int (by omega)))
        clear H IY IY1
        go_wp2
        go_roundw
        case rel => exact ⟨y', t + 3, rfl, by have := HT3.out; have := H3.out; omega, by have := HT3.out; omega, by go_num, by rw [HTS.out, ← List.cons_append, HO.out]; exact IY2.out⟩
        case measure => simp [intOf]; omega
      · obtain rfl : t = F := by omega
        go_wp2_with (at_builtin; refine wpList_appV rfl (.tmp 100) (.tmp 101) 22 3 rfl Tryz.underlying22 (.int .i64 0) 8 infoI rfl (by decide) w1.heap.size y (O.map num) rfl (IY.out.new _) ⟨w5.heap.size, 0, none⟩ 1 1 [_] rfl rfl (cell_one_new _ _ _) (one_i64 _) (by rw [List.length_map]; omega) (IY.out.bs _) ?_)
        intro y' w6 H
        have IY2 := Lib.hid (IY.out.app (c := 254) H.out rfl)
        clear H IY
        go_wp2
        go_ret2
        refine ⟨wh, O ++ [254], by rw [chs_len]; omega, ⟨y', rfl, IY2.out.own.base BW.out.size, BW.out.trans (IY2.out.bel.mono BW.out.size)⟩, fun _ => ⟨?_, fun z hz => ?_, ?_, by simp⟩⟩
        · rw [← HO.out]; exact HOK.out
        · rw [← HO.out] at hz
          rcases List.mem_append.1 hz with h | h
          · rcases List.mem_cons.1 h with rfl | h
            · unfold latchN; repeat' split
              all_goals decide
            · exact tcw_lt _ (fun v hv => by
                obtain ⟨j, hj⟩ := List.mem_iff_getElem?.1 (List.mem_of_mem_take hv)
                have hjl := (List.getElem?_eq_some_iff.1 hj).1
                have := HGV.out j hjl
                rw [List.getD_eq_getElem?_getD, hj] at this; exact this) z h
          · simp at h; rw [h]; decide
        · rw [← HO.out, List.length_append, List.length_cons, tcw_len, List.length_take, List.length_singleton]; omega
end Go.Proofs.YtcnallabiffemaaGreatDoor
namespace Go.Proofs.YtcnallabiffemaaGreatDoor
open Go.RowKit (wrap32 wrap64 intOf Hid Below)
open Zx

theorem segmentC (w : World) (s : ByteArray) (mode behind : Nat) (hm : mode ≤ 5) (hs : s.size ≤ 1000) (hb : behind ≤ 100000) (h5 : mode = 5 → s.size < 250) (h128 : ∀ c ∈ chs s, c < 128) :
    Calls Tryz.prog 19 #[.string s, .int .i64 mode, .int .i64 behind] w (SegTo1 w behind (chs s)) := by
  have hx : mode = 0 ∨ (1 ≤ mode ∧ mode ≤ 3) ∨ mode = 4 ∨ mode = 5 := by omega
  rcases hx with rfl | h | rfl | rfl
  · exact segA w s behind hs h128
  · exact segT w s mode behind h hs h128
  · exact segE w s behind hs
  · exact segB w s behind (h5 rfl) hb h128

/-- a slice of numbers that came in -/
def RdI (w : World) (v : Value) (l : List Int) : Prop :=
  (l = [] ∧ ∃ a c, v = .slice a 0 c) ∨ (l ≠ [] ∧ ∃ b o c, v = .slice (some ⟨b, o, none⟩) l.length c ∧ b < w.heap.size ∧ ∀ (j : Nat) (x : Int), l[j]? = some x → w.cell? ⟨b, o + j, none⟩ = some (.int .i64 x))
theorem RdI.below {w w' : World} {v : Value} {l : List Int} (h : RdI w v l) (hb : Below w.heap.size w w') : RdI w' v l := by
  rcases h with h | ⟨h1, b, o, c, h2, h3, h4⟩
  · exact .inl h
  · exact .inr ⟨h1, b, o, c, h2, Nat.lt_of_lt_of_le h3 hb.size, fun j x hx => (hb.cell (p := ⟨b, o + j, none⟩) h3).trans (h4 j x hx)⟩
def I64 (x : Int) : Prop := -9223372036854775808 ≤ x ∧ x < 9223372036854775808

theorem chs_sub (s : ByteArray) (i j : Nat) : chs (s.extract i j) = ((chs s).drop i).take (j - i) := by
  unfold chs
  simp [List.map_take, List.map_drop]

theorem choice (x : Int) (hx : I64 x) : ∃ (m d e : Int) (q q2 md mo : Nat), Int.tmod x 6 = m ∧ m + 6 = (q : Int) ∧ q % 6 = md ∧ (q : Int) % 6 = (md : Int) ∧ Int.tdiv x 6 = d ∧ (-4611686018427387904 ≤ d ∧ d ≤ 4611686018427387904) ∧ Int.tmod d 20 = e ∧ e + 20 = (q2 : Int) ∧ (q2 : Int) % 20 + 1 = (mo : Int) ∧ md ≤ 5 ∧ 1 ≤ mo ∧ mo ≤ 20 ∧ -6 < m ∧ m < 6 ∧ -20 < e ∧ e < 20 ∧ q < 12 ∧ q2 < 40 := by
  have h1 := Int.lt_tmod_of_pos x (show (0 : Int) < 6 by decide)
  have h2 := Int.tmod_lt_of_pos x (show (0 : Int) < 6 by decide)
  have h3 := Int.lt_tmod_of_pos (Int.tdiv x 6) (show (0 : Int) < 20 by decide)
  have h4 := Int.tmod_lt_of_pos (Int.tdiv x 6) (show (0 : Int) < 20 by decide)
  have h5 := Int.mul_tdiv_add_tmod x 6
  unfold I64 at hx
  generalize hm : Int.tmod x 6 = m at h1 h2 h5
  generalize hd : Int.tdiv x 6 = d at h3 h4 h5
  generalize he : Int.tmod d 20 = e at h3 h4
  exact ⟨m, d, e, (m + 6).toNat, (e + 20).toNat, (m + 6).toNat % 6, (e + 20).toNat % 20 + 1, rfl, by omega, rfl, by omega, rfl, by omega, he, by omega, by omega, by omega, by omega, by omega, by omega, by omega, by omega, by omega, by omega, by omega⟩
end Go.Proofs.YtcnallabiffemaaGreatDoor
