import Derived.Lib.OthersKept
import Derived.Test.YtcnallabiffemaaGreatDoorP01
/- Part of the proof that a Data Matrix symbol of a text, damaged at most to half of its check codewords in each block, is decoded to the text (FnDecode): texts E3 E4 E5 E6 E7 E8 E9 E10 E11 E12 E13 E14. -/
set_option linter.unusedVariables false
set_option linter.unusedSimpArgs false
namespace Go.Proofs.YtcnallabiffemaaGreatDoor
open Go.RowKit (wrap32 wrap64 intOf Hid Below)
open Zx

/-! the encoder's context: a row of nine: msg, shape, minSize, maxSize, codewords, pos, newEncoding, symbolInfo, skipAtEnd -/
abbrev Cx (w : World) (p : Nat) (f : Nat → Value) : Prop := w.rowIs p 201 9 f

theorem ascEnc (w : World) : Calls Tryz.prog 108 #[] w fun e w' => e = .returned (.iface 256 (.agg #[])) ∧ w = w' := by
  go_enter Tryz.func108, Tryz.ntmps108
  go_wp2
  go_ret
  exact ⟨rfl, rfl⟩
theorem x12Enc (w : World) : Calls Tryz.prog 111 #[] w fun e w' => e = .returned (.iface 261 (.agg #[])) ∧ w = w' := by
  go_enter Tryz.func111, Tryz.ntmps111
  go_wp2
  go_ret
  exact ⟨rfl, rfl⟩
theorem ediEnc (w : World) : Calls Tryz.prog 112 #[] w fun e w' => e = .returned (.iface 262 (.agg #[])) ∧ w = w' := by
  go_enter Tryz.func112, Tryz.ntmps112
  go_wp2
  go_ret
  exact ⟨rfl, rfl⟩
theorem b256Enc (w : World) : Calls Tryz.prog 113 #[] w fun e w' => e = .returned (.iface 263 (.agg #[])) ∧ w = w' := by
  go_enter Tryz.func113, Tryz.ntmps113
  go_wp2
  go_ret
  exact ⟨rfl, rfl⟩
theorem c40Enc (w : World) : Calls Tryz.prog 109 #[] w fun e w' => e = .returned (.iface 257 (pt w.heap.size)) ∧ Below w.heap.size w w' := by
  go_enter Tryz.func109, Tryz.ntmps109
  go_wp2
  go_ret
  exact ⟨rfl, (Below.refl _ _).alloc (Nat.le_refl _) _⟩
theorem txtEnc (w : World) : Calls Tryz.prog 110 #[] w fun e w' => e = .returned (.iface 257 (pt w.heap.size)) ∧ Below w.heap.size w w' := by
  go_enter Tryz.func110, Tryz.ntmps110
  go_wp2
  go_ret
  exact ⟨rfl, (Below.refl _ _).alloc (Nat.le_refl _) _⟩

theorem newEncC (w : World) (p : Nat) (f : Nat → Value) (k : Int) (h : Cx w p f) (hk : f 6 = .int .i64 k) : Calls Tryz.prog 122 #[pt p] w fun e w' => e = .returned (.int .i64 k) ∧ w = w' := by
  have c6 := h.cell (i := 6) (by omega)
  rw [hk] at c6
  go_enter Tryz.func122, Tryz.ntmps122
  go_wp2
  go_ret
  exact ⟨rfl, rfl⟩
theorem getSymC (w : World) (p : Nat) (f : Nat → Value) (a : Option Addr) (h : Cx w p f) (hk : f 7 = .pointer a) : Calls Tryz.prog 127 #[pt p] w fun e w' => e = .returned (.pointer a) ∧ w = w' := by
  have c7 := h.cell (i := 7) (by omega)
  rw [hk] at c7
  go_enter Tryz.func127, Tryz.ntmps127
  go_wp2
  go_ret
  exact ⟨rfl, rfl⟩
theorem getCwC (w : World) (p : Nat) (f : Nat → Value) (a : Option Addr) (m c : Nat) (h : Cx w p f) (hk : f 4 = .slice a m c) : Calls Tryz.prog 129 #[pt p] w fun e w' => e = .returned (.slice a m c) ∧ w = w' := by
  have c4 := h.cell (i := 4) (by omega)
  rw [hk] at c4
  go_enter Tryz.func129, Tryz.ntmps129
  go_wp2
  go_ret
  exact ⟨rfl, rfl⟩
theorem getMsgC (w : World) (p : Nat) (f : Nat → Value) (a : Option Addr) (m c : Nat) (h : Cx w p f) (hk : f 0 = .slice a m c) : Calls Tryz.prog 273 #[pt p] w fun e w' => e = .returned (.slice a m c) ∧ w = w' := by
  have c0 := h.cell (i := 0) (by omega)
  rw [hk] at c0
  go_enter Tryz.func273, Tryz.ntmps273
  go_wp2
  go_ret
  exact ⟨rfl, rfl⟩
theorem cwCountC (w : World) (p : Nat) (f : Nat → Value) (a : Option Addr) (m c : Nat) (h : Cx w p f) (hk : f 4 = .slice a m c) : Calls Tryz.prog 124 #[pt p] w fun e w' => e = .returned (.int .i64 m) ∧ w = w' := by
  have c4 := h.cell (i := 4) (by omega)
  rw [hk] at c4
  go_enter Tryz.func124, Tryz.ntmps124
  go_wp2
  go_ret
  exact ⟨rfl, rfl⟩
end Go.Proofs.YtcnallabiffemaaGreatDoor
namespace Go.Proofs.YtcnallabiffemaaGreatDoor
open Go.RowKit (wrap32 wrap64 intOf Hid Below)
open Zx

def SetTo (w : World) (p k : Nat) (v : Value) (e : Ending) (w' : World) : Prop := e = .returned (.tuple #[]) ∧ w' = w.setCell ⟨p, k, none⟩ v
theorem resetC (w : World) (p : Nat) (f : Nat → Value) (h : Cx w p f) : Calls Tryz.prog 123 #[pt p] w (SetTo w p 6 (.int .i64 (-1))) := by
  have c6 := h.cell (i := 6) (by omega)
  have f6 := h.frozen 6
  go_enter Tryz.func123, Tryz.ntmps123
  go_wp2
  refine bodyPost_end (results_none rfl _ _ _) rfl ?_
  exact ⟨rfl, rfl⟩
theorem setShapeC (w : World) (p : Nat) (f : Nat → Value) (k : Int) (h : Cx w p f) : Calls Tryz.prog 115 #[pt p, .int .i64 k] w (SetTo w p 1 (.int .i64 k)) := by
  have c6 := h.cell (i := 1) (by omega)
  have f6 := h.frozen 1
  go_enter Tryz.func115, Tryz.ntmps115
  go_wp2
  refine bodyPost_end (results_none rfl _ _ _) rfl ?_
  exact ⟨rfl, rfl⟩
theorem setSkipC (w : World) (p : Nat) (f : Nat → Value) (k : Int) (h : Cx w p f) : Calls Tryz.prog 120 #[pt p, .int .i64 k] w (SetTo w p 8 (.int .i64 k)) := by
  have c6 := h.cell (i := 8) (by omega)
  have f6 := h.frozen 8
  go_enter Tryz.func120, Tryz.ntmps120
  go_wp2
  refine bodyPost_end (results_none rfl _ _ _) rfl ?_
  exact ⟨rfl, rfl⟩
theorem setSizeC (w : World) (p : Nat) (f : Nat → Value) (a b : Option Addr) (h : Cx w p f) : Calls Tryz.prog 116 #[pt p, .pointer a, .pointer b] w fun e w' => e = .returned (.tuple #[]) ∧ w' = (w.setCell ⟨p, 2, none⟩ (.pointer a)).setCell ⟨p, 3, none⟩ (.pointer b) := by
  have c2 := h.cell (i := 2) (by omega)
  have f2 := h.frozen 2
  have h2 := h.set 2 (.pointer a)
  have c3 := h2.cell (i := 3) (by omega)
  have f3 := h2.frozen 3
  go_enter Tryz.func116, Tryz.ntmps116
  go_wp2
  refine bodyPost_end (results_none rfl _ _ _) rfl ?_
  exact ⟨rfl, rfl⟩
theorem charsC (w : World) (p : Nat) (f : Nat → Value) (a : Option Addr) (m c k : Nat) (h : Cx w p f) (h0 : f 0 = .slice a m c) (h8 : f 8 = .int .i64 k) (hk : k ≤ m) (hm : m ≤ 100000) : Calls Tryz.prog 193 #[pt p] w fun e w' => e = .returned (.int .i64 ((m - k : Nat) : Int)) ∧ ∃ n, w' = w.drewN n := by
  have c0 := h.cell (i := 0) (by omega)
  rw [h0] at c0
  have c8 := h.cell (i := 8) (by omega)
  rw [h8] at c8
  go_enter Tryz.func193, Tryz.ntmps193
  go_wp2_with fail
  go_quiet (fail)
  go_wp2
  go_ret
  exact ⟨congrArg Ending.returned (val_int (by omega)), _, rfl⟩
end Go.Proofs.YtcnallabiffemaaGreatDoor
namespace Go.Proofs.YtcnallabiffemaaGreatDoor
open Go.RowKit (wrap32 wrap64 intOf Hid Below)
open Zx

theorem curC (w : World) (p g m c k x : Nat) (f : Nat → Value) (h : Cx w p f) (h0 : f 0 = .slice (some ⟨g, 0, none⟩) m c) (h5 : f 5 = .int .i64 k) (hk : k < m) (hm : m ≤ 100000) (hx : w.cell? ⟨g, k, none⟩ = some (byt x)) : Calls Tryz.prog 275 #[pt p] w fun e w' => e = .returned (byt x) ∧ ∃ n, w' = w.drewN n := by
  have c0 := h.cell (i := 0) (by omega)
  rw [h0] at c0
  have c5 := h.cell (i := 5) (by omega)
  rw [h5] at c5
  go_enter Tryz.func275, Tryz.ntmps275
  go_wp2_with fail
  go_quiet (fail)
  go_wp2
  go_ret
  exact ⟨rfl, _, rfl⟩
theorem moreC (w : World) (p m k pos : Nat) (a : Option Addr) (c : Nat) (f : Nat → Value) (h : Cx w p f) (h0 : f 0 = .slice a m c) (h5 : f 5 = .int .i64 pos) (h8 : f 8 = .int .i64 k) (hk : k ≤ m) (hm : m ≤ 100000) : Calls Tryz.prog 121 #[pt p] w fun e w' => e = .returned (.bool (decide (pos < m - k))) ∧ ∃ n, w' = w.drewN n := by
  have cc := fun w' (h' : Cx w' p f) => charsC w' p f a m c k h' h0 h8 hk hm
  have CC := Lib.hid cc; clear cc
  have c5 := h.cell (i := 5) (by omega)
  rw [h5] at c5
  have H := Lib.hid h; clear h
  go_enter Tryz.func121, Tryz.ntmps121
  go_wp2_with fail
  go_quiet ((go_at_call 193; refine Calls.quiet_of (CC.out _ ?_); exact H.out))
  go_wp2
  go_ret
  refine ⟨congrArg Ending.returned (congrArg Value.bool ?_), _, rfl⟩
  exact decide_eq_decide.2 (by omega)
end Go.Proofs.YtcnallabiffemaaGreatDoor
namespace Go.Proofs.YtcnallabiffemaaGreatDoor
open Go.RowKit (wrap32 wrap64 intOf Hid Below)
open Zx

/-- a codeword is written: the context p, its codewords' slice v -/
def CwTo (w : World) (p base : Nat) (f : Nat → Value) (v : Value) (l : List Nat) (e : Ending) (w' : World) : Prop :=
  e = .returned (.tuple #[]) ∧ ∃ v', Cx w' p (fun i => if i = 4 then v' else f i) ∧ OwnB w' base v' l ∧ v'.ownBlock ≠ some p ∧ But (fun k => k = p ∨ v.ownBlock = some k) w w' ∧ (∀ k, k < w.heap.size → v'.ownBlock = some k → v.ownBlock = some k)

theorem app_shape {w4 : World} {e : TypeId} {base : Nat} {v' u : Value} {rows : List Value} (h : OwnV w4 e base v' (rows ++ [u])) : ∃ g c, v' = .slice (some ⟨g, 0, none⟩) (rows.length + 1) c := by
  rcases h.shape with ⟨_, h0⟩ | ⟨g, c, h1, _⟩
  · simp at h0
  · exact ⟨g, c, by rw [h1, List.length_append]; rfl⟩

set_option maxRecDepth 100000 in
set_option maxHeartbeats 4000000 in
theorem writeC (w : World) (p base : Nat) (f : Nat → Value) (v : Value) (l : List Nat) (x : Nat) (h : Cx w p f) (h4 : f 4 = v) (ho : OwnB w base v l) (hne : v.ownBlock ≠ some p) (hl : l.length ≤ 5000) (hb : base ≤ w.heap.size) :
    Calls Tryz.prog 119 #[pt p, byt x] w (CwTo w p base f v (l ++ [x])) := by
  have c4 := h.cell (i := 4) (by omega)
  rw [h4] at c4
  have H := Lib.hid h
  have OH := Lib.hid ho
  have hll : (l.map byt).length + 1 ≤ 1000000 := by rw [List.length_map]; omega
  have hplt := h.lt
  clear h ho
  go_enter Tryz.func119, Tryz.ntmps119
  go_wp2_with ((with_reducible show wpList _ _ _ (Oper.mk (some 11) _ _ _ _ _ :: _) _ _); refine wpList_appV rfl (.tmp 8) (.tmp 10) 32 5 rfl Tryz.underlying32 (.int .u8 0) 1 infoB rfl (by decide) base v (l.map byt) rfl (OH.out.below ((Below.refl _ _).alloc (Nat.le_refl _) _)) ⟨w.heap.size, 0, none⟩ 1 1 [_] rfl rfl (cell_one_new _ _ _) (one_u8 _) hll (by rw [World.size_alloc]; omega) ?_; intro v' w2 Hh; have row2 := Hh.out.but.row (H.out.alloc (.cells #[byt x] 5)) hne; have fr2 := row2.frozen 4; have cc2 := row2.cell (i := 4) (by omega); obtain ⟨g5, c5, rfl⟩ := app_shape Hh.out.own)
  have hl2 : (l.map byt).length + 1 = (l.length + 1) := by rw [List.length_map]
  have hg5 : g5 ≠ p := fun e => by
    rcases Hh.out.at_ with h1 | h1
    · exact hne (h1.symm.trans (by rw [← e]; rfl))
    · rw [World.size_alloc] at h1
      have h2 : g5 = w.heap.size + 1 := Option.some.inj h1
      omega
  have hat : ∀ k, k < w.heap.size → (some g5 : Option Nat) = some k → v.ownBlock = some k := fun k hk e => by
    rcases Hh.out.at_ with h1 | h1
    · exact h1.symm.trans e
    · rw [World.size_alloc] at h1
      have h2 : g5 = w.heap.size + 1 := Option.some.inj h1
      have h3 := Option.some.inj e
      omega
  have own3 : OwnV (w2.setCell ⟨p, 4, none⟩ (.slice (some ⟨g5, 0, none⟩) (l.length + 1) c5)) 5 base (.slice (some ⟨g5, 0, none⟩) (l.length + 1) c5) (l.map byt ++ [byt x]) := by
    have := Hh.out.own
    rw [hl2] at this
    exact this.keep ((But.refl (· = p) w2).thenSet (a := ⟨p, 4, none⟩) (.inl rfl) _) (fun k hk e => by cases hk; exact hg5 e)
  have row3 := row2.set 4 (.slice (some ⟨g5, 0, none⟩) (l.length + 1) c5)
  have but3 : But (fun k => k = p ∨ v.ownBlock = some k) w (w2.setCell ⟨p, 4, none⟩ (.slice (some ⟨g5, 0, none⟩) (l.length + 1) c5)) :=
    ((((But.refl _ w).thenAlloc (.cells #[byt x] 5)).trans (Hh.out.but.weak fun k _ h => .inr h))).thenSet (a := ⟨p, 4, none⟩) (.inl (.inl rfl)) _
  have O3 := Lib.hid own3; have R3 := Lib.hid row3; have B3 := Lib.hid but3
  clear own3 row3 but3 Hh hl2
  go_wp2
  refine bodyPost_end (results_none rfl _ _ _) rfl ?_
  exact ⟨rfl, _, R3.out, by rw [OwnB, List.map_append]; exact O3.out, fun e => hg5 (Option.some.inj e), B3.out, hat⟩
end Go.Proofs.YtcnallabiffemaaGreatDoor
namespace Go.Proofs.YtcnallabiffemaaGreatDoor
open Go.RowKit (wrap32 wrap64 intOf Hid Below)
open Zx

theorem isDigitC (w : World) (x : Nat) (hx : x < 256) : Calls Tryz.prog 279 #[byt x] w fun e w' => e = .returned (.bool (decide (48 ≤ x ∧ x ≤ 57))) ∧ w = w' := by
  go_enter Tryz.func279, Tryz.ntmps279
  by_cases h1 : 48 ≤ x
  · by_cases h2 : x ≤ 57
    · go_wp2
      go_ret
      exact ⟨by simp [h1, h2]; try omega, rfl⟩
    · go_wp2
      go_ret
      exact ⟨by simp [h1, h2]; try omega, rfl⟩
  · go_wp2
    go_ret
    exact ⟨by simp [h1]; try omega, rfl⟩
set_option maxRecDepth 100000 in
theorem twoDigitsC (w : World) (x y : Nat) (hx : 48 ≤ x ∧ x ≤ 57) (hy : 48 ≤ y ∧ y ≤ 57) : Calls Tryz.prog 274 #[byt x, byt y] w fun e w' => e = .returned (.tuple #[byt (130 + (x - 48) * 10 + (y - 48)), .nilIface]) ∧ w = w' := by
  have d1 := isDigitC w x (by omega)
  have d2 := isDigitC w y (by omega)
  rw [show decide (48 ≤ x ∧ x ≤ 57) = true from decide_eq_true hx] at d1
  rw [show decide (48 ≤ y ∧ y ≤ 57) = true from decide_eq_true hy] at d2
  have D2 := Lib.hid d2; clear d2
  go_enter Tryz.func274, Tryz.ntmps274
  go_wp2_with fail
  refine d1.mono ?_
  rintro e w' ⟨rfl, hw⟩
  obtain rfl := hw
  go_wp2_with fail
  refine D2.out.mono ?_
  rintro e w' ⟨rfl, hw⟩
  obtain rfl := hw
  go_wp2
  go_ret2
  exact ⟨congrArg (fun z => Ending.returned (.tuple #[.int .u8 z, .nilIface])) (by omega), rfl⟩
end Go.Proofs.YtcnallabiffemaaGreatDoor
namespace Go.Proofs.YtcnallabiffemaaGreatDoor
open Go.RowKit (wrap32 wrap64 intOf Hid Below)
open Zx

set_option maxRecDepth 100000 in
/-- a text of digits: how many from a place on -/
theorem countC (w : World) (g m c i : Nat) (xs : Nat → Nat) (hm : m ≤ 5000) (hi_ : i < m) (hx : ∀ j, j < m → w.cell? ⟨g, j, none⟩ = some (byt (xs j)) ∧ 48 ≤ xs j ∧ xs j ≤ 57) :
    Calls Tryz.prog 272 #[.slice (some ⟨g, 0, none⟩) m c, .int .i64 i] w fun e w' => e = .returned (.int .i64 ((m - i : Nat) : Int)) ∧ w = w' := by
  have HX := Lib.hid hx; clear hx
  obtain ⟨c0, d0⟩ := HX.out i hi_
  go_enter Tryz.func272, Tryz.ntmps272
  go_wp2_with fail
  go_loopw [5, 7, 8] (fun s5 s7 s8 wr => ∃ (t k z : Nat), s5 = .int .i64 t ∧ s7 = .int .i64 k ∧ k = i + t ∧ s8 = byt z ∧ k ≤ m ∧ 48 ≤ z ∧ z ≤ 57 ∧ w = wr) (fun s5 _ _ _ => m - (intOf s5).toNat)
  case atStart => exact ⟨0, i, xs i, rfl, rfl, rfl, rfl, by omega, d0.1, d0.2, rfl⟩
  case round =>
    obtain ⟨t, k, z, rfl, rfl, hk, rfl, hkm, hz1, hz2, rfl⟩ := hrel
    have htm : t ≤ 5000 := by omega
    have HK := Lib.hid hk; clear hk
    have dc := isDigitC w z (by omega)
    rw [show decide (48 ≤ z ∧ z ≤ 57) = true from decide_eq_true ⟨hz1, hz2⟩] at dc
    go_wp2_with fail
    refine dc.mono ?_
    rintro e w' ⟨rfl, hw⟩
    obtain rfl := hw
    by_cases hlt : k < m
    · by_cases hl2 : k + 1 < m
      · obtain ⟨c1, d1⟩ := HX.out (k + 1) hl2
        obtain ⟨J, hJ⟩ : ∃ J, k + 1 = J := ⟨_, rfl⟩
        rw [hJ] at c1 d1 hl2
        have eJ : ((k : Int) + 1).toNat = J := by omega
        have HJ := Lib.hid hJ; clear hJ
        have hJm : (k : Int) + 1 < (m : Int) := by have := HJ.out; omega
        have hJ0 : (0 : Int) ≤ (k : Int) + 1 := by omega
        go_wp2_with fail
        go_roundw
        case rel => exact ⟨t + 1, k + 1, xs J, by go_num, by have := HK.out; go_num, by have := HK.out; omega, rfl, by omega, d1.1, d1.2, trivial⟩
        case measure => simp [intOf]; have := HK.out; omega
      · go_wp2_with fail
        go_roundw
        case rel => exact ⟨t + 1, k + 1, z, by go_num, by have := HK.out; go_num, by have := HK.out; omega, rfl, by omega, hz1, hz2, trivial⟩
        case measure => simp [intOf]; have := HK.out; omega
    · go_wp2_with fail
      go_ret
      exact ⟨congrArg Ending.returned (val_int (by have := HK.out; omega)), rfl⟩
end Go.Proofs.YtcnallabiffemaaGreatDoor
namespace Go.Proofs.YtcnallabiffemaaGreatDoor
open Go.RowKit (wrap32 wrap64 intOf Hid Below)
open Zx

theorem OwnV.iterAt {w : World} {e : TypeId} {base : Nat} {v : Value} {xs : List Value} (h : OwnV w e base v xs) {k : Nat} (hk : k < base) (s : ByteArray) (p : Nat) : OwnV (w.iterAt k s p) e base v xs := by
  obtain ⟨h1, h2⟩ := h
  refine ⟨h1, ?_⟩
  rcases h2 with h2 | ⟨g, cap, cur, a, b, c, d⟩
  · exact .inl h2
  · exact .inr ⟨g, cap, cur, a, b, by rw [Lib.iterAt_other _ _ _ _ _ (by omega)]; exact c, d⟩
theorem iterPos_of {w : World} {k : Nat} {s : ByteArray} {p : Nat} (h : w.heap[k]? = some (.stringIter s p)) : w.iterPos k = p := by simp [World.iterPos, h]
theorem lt_of_blk {w : World} {k : Nat} {o : Obj} (h : w.heap[k]? = some o) : k < w.heap.size := (Array.getElem?_eq_some_iff.1 h).1

set_option maxRecDepth 100000 in
set_option maxHeartbeats 4000000 in
/-- a text of ASCII alone, encoded -/
theorem enc190 (w : World) (s : ByteArray) (hs : s.size ≤ 5000) (h7 : ∀ i (h : i < s.size), (s[i]'h).toNat < 128) : Calls Tryz.prog 190 #[.int .i64 1, .string s] w (OctTo w (chs s)) := by
  go_enter Tryz.func190, Tryz.ntmps190
  go_wp2_with fail
  go_loopw [6] (fun s6 wr => ∃ (pos : Nat) (u : Value), u = s6 ∧ pos ≤ s.size ∧ wr.heap[w.heap.size]? = some (.stringIter s pos) ∧ OwnB wr (w.heap.size + 1) u ((chs s).take pos) ∧ Below w.heap.size w wr) (fun _ wr => s.size - wr.iterPos w.heap.size)
  case atStart => exact ⟨0, _, rfl, Nat.zero_le _, World.iter_heap w s 0, OwnV.nil _ _ _, (Below.refl _ _).alloc (Nat.le_refl _) _⟩
  case round =>
    obtain ⟨pos, u, rfl, hps, hit, hown, hbw⟩ := hrel
    have hpos0 := iterPos_of hit
    by_cases hp : pos < s.size
    · have hnx : ∀ ty, (Instr.next (.pointer (some ⟨w.heap.size, 0, none⟩)) true ty).run Tryz.prog wr = _ := fun ty => Lib.run_next_ascii_at wr w.heap.size s pos ty hit hp (h7 pos hp)
      have hit2 := Lib.iterAt_heap wr w.heap.size s pos (pos + 1) hit
      have hbw2 := Lib.below_iterAt hbw (k := w.heap.size) (Nat.le_refl _) s (pos + 1)
      have hown2 := hown.iterAt (k := w.heap.size) (by omega) s (pos + 1)
      obtain ⟨W1, hW1⟩ : ∃ W1, W1 = wr.iterAt w.heap.size s (pos + 1) := ⟨_, rfl⟩
      rw [← hW1] at hnx hit2 hbw2 hown2
      have h1 := h7 pos hp
      have htk := take_snoc s pos hp
      obtain ⟨c, hc⟩ : ∃ c, (s[pos]'hp).toNat = c := ⟨_, rfl⟩
      rw [hc] at hnx h1 htk
      have HTK := Lib.hid htk; clear htk hc
      have hu8 : IntKind.u8.wrap (c : Int) = (c : Int) := (conv_rune c h1).2.1
      have c255 : decide ((255 : Int) < (c : Int)) = false := decide_eq_false (by omega)
      have c128 : decide ((128 : Int) ≤ (c : Int)) = false := decide_eq_false (by omega)
      have HIT := Lib.hid hit2
      have HB := Lib.hid hbw2
      have OWN := Lib.hid hown2
      have hBlt := lt_of_blk hit2
      have hll : (((chs s).take pos).map byt).length + 1 ≤ 1000000 := by rw [List.length_map, List.length_take]; omega
      clear hW1 hit hown hbw hit2 hown2 hbw2 h7
      go_wp2_with ((with_reducible show wpList _ _ _ (Oper.mk (some 37) _ _ _ _ _ :: _) _ _); refine wpList_appV rfl (.tmp 33) (.tmp 36) 32 5 rfl Tryz.underlying32 (.int .u8 0) 1 infoB rfl (by decide) (w.heap.size + 1) u (((chs s).take pos).map byt) rfl (OWN.out.below ((Below.refl _ _).alloc (Nat.le_refl _) _)) ⟨W1.heap.size, 0, none⟩ 1 1 [_] rfl rfl (cell_one_new _ _ _) (one_u8 _) hll (by rw [World.size_alloc]; omega) ?_; intro u' w4 Hh)
      have hb4 : Hid (Below w.heap.size w w4) := Lib.hid ((HB.out.alloc (by omega) _).trans (Hh.out.but.below (by rw [World.size_alloc]; omega) (fun k hk e => by have := OWN.out.lt e; omega)))
      have hi4 : Hid (w4.heap[w.heap.size]? = some (.stringIter s (pos + 1))) := Lib.hid ((Hh.out.but.block w.heap.size (by rw [World.size_alloc]; omega) (fun e => by have := OWN.out.lt e; omega)).trans ((Below.heap_alloc _ _ _ hBlt).trans HIT.out))
      have ho4 := Lib.hid Hh.out.own
      clear Hh
      go_roundw
      case rel => exact ⟨pos + 1, u', rfl, hp, hi4.out, by rw [HTK.out, OwnB, List.map_append]; exact ho4.out, hb4.out⟩
      case measure => rw [iterPos_of hi4.out, hpos0]; omega
    · have hnx : ∀ ty, (Instr.next (.pointer (some ⟨w.heap.size, 0, none⟩)) true ty).run Tryz.prog wr = _ := fun ty => Lib.run_next_end_at wr w.heap.size s pos ty hit hp
      go_wp2
      go_ret2
      refine ⟨u, rfl, ?_, hbw⟩
      rw [show (chs s).take pos = chs s from List.take_of_length_le (by rw [chs_len]; omega)] at hown
      exact hown.base (Nat.le_succ _)
end Go.Proofs.YtcnallabiffemaaGreatDoor
namespace Go.Proofs.YtcnallabiffemaaGreatDoor
open Go.RowKit (wrap32 wrap64 intOf Hid Below)
open Zx

/-- the row of a context -/
def cxR (g c m : Nat) (sh : Int) (cv : Value) (pos : Nat) (nw : Int) (sy : Option Addr) (sk : Nat) : Nat → Value := fun i =>
  if i = 0 then .slice (some ⟨g, 0, none⟩) m c else if i = 1 then .int .i64 sh else if i = 2 then .pointer none else if i = 3 then .pointer none else if i = 4 then cv else if i = 5 then .int .i64 pos else if i = 6 then .int .i64 nw else if i = 7 then .pointer sy else .int .i64 sk
structure Ctx (w : World) (p g base : Nat) (l : List Nat) (sh : Int) (cv : Value) (pos : Nat) (cw : List Nat) (nw : Int) (sy : Option Addr) (sk : Nat) : Prop where
  row : ∃ c, Cx w p (cxR g c l.length sh cv pos nw sy sk)
  msg : ∀ j x, l[j]? = some x → w.cell? ⟨g, j, none⟩ = some (byt x)
  own : OwnB w base cv cw
  pb : base ≤ p ∧ p < w.heap.size ∧ base ≤ g ∧ g < w.heap.size
  ne : p ≠ g ∧ cv.ownBlock ≠ some p ∧ cv.ownBlock ≠ some g
theorem Ctx.below {w w' : World} {p g base : Nat} {l : List Nat} {sh : Int} {cv : Value} {pos : Nat} {cw : List Nat} {nw : Int} {sy : Option Addr} {sk : Nat} (h : Ctx w p g base l sh cv pos cw nw sy sk) (hb : Below w.heap.size w w') : Ctx w' p g base l sh cv pos cw nw sy sk := by
  obtain ⟨⟨c, hr⟩, hm, ho, ⟨h1, h2, h3, h4⟩, hn⟩ := h
  have hz := hb.size
  exact ⟨⟨c, rowIs_below hr hb h2⟩, fun j x hx => (hb.cell (p := ⟨g, j, none⟩) h4).trans (hm j x hx), ho.below hb, ⟨h1, by omega, h3, by omega⟩, hn⟩
theorem Ctx.dn {w : World} {p g base : Nat} {l : List Nat} {sh : Int} {cv : Value} {pos : Nat} {cw : List Nat} {nw : Int} {sy : Option Addr} {sk : Nat} (h : Ctx w p g base l sh cv pos cw nw sy sk) (n : Nat) : Ctx (w.drewN n) p g base l sh cv pos cw nw sy sk := h.below (below_dn _ _ _)
/-- a field of a context is set -/
theorem Ctx.set {w : World} {p g base : Nat} {l : List Nat} {sh : Int} {cv : Value} {pos : Nat} {cw : List Nat} {nw : Int} {sy : Option Addr} {sk : Nat} (h : Ctx w p g base l sh cv pos cw nw sy sk) (k : Nat) (v : Value) (sh' : Int) (pos' : Nat) (nw' : Int) (sy' : Option Addr) (sk' : Nat)
    (hf : ∀ c i, i < 9 → (if i = k then v else cxR g c l.length sh cv pos nw sy sk i) = cxR g c l.length sh' cv pos' nw' sy' sk' i) : Ctx (w.setCell ⟨p, k, none⟩ v) p g base l sh' cv pos' cw nw' sy' sk' := by
  obtain ⟨⟨c, hr⟩, hm, ho, hp, hn⟩ := h
  have hb : But (· = p) w (w.setCell ⟨p, k, none⟩ v) := (But.refl (· = p) w).thenSet (a := ⟨p, k, none⟩) (.inl rfl) _
  have hz : (w.setCell ⟨p, k, none⟩ v).heap.size = w.heap.size := World.size_setCell _ _ _
  exact ⟨⟨c, (hr.set k v).congr (hf c)⟩, fun j x hx => (hb.cell (p := ⟨g, j, none⟩) hp.2.2.2 (fun e => hn.1 e.symm)).trans (hm j x hx), ho.keep hb (fun k hk e => hn.2.1 (by rw [hk, e])), ⟨hp.1, by omega, hp.2.2.1, by omega⟩, hn⟩
theorem Ctx.pos {w : World} {p g base : Nat} {l : List Nat} {sh : Int} {cv : Value} {pos : Nat} {cw : List Nat} {nw : Int} {sy : Option Addr} {sk : Nat} (h : Ctx w p g base l sh cv pos cw nw sy sk) (pos' : Nat) : Ctx (w.setCell ⟨p, 5, none⟩ (.int .i64 pos')) p g base l sh cv pos' cw nw sy sk :=
  h.set 5 _ sh pos' nw sy sk (fun c i hi' => by
    unfold cxR
    by_cases h5 : i = 5
    · subst h5; simp
    · simp [h5])
theorem Ctx.nwSet {w : World} {p g base : Nat} {l : List Nat} {sh : Int} {cv : Value} {pos : Nat} {cw : List Nat} {nw : Int} {sy : Option Addr} {sk : Nat} (h : Ctx w p g base l sh cv pos cw nw sy sk) (nw' : Int) : Ctx (w.setCell ⟨p, 6, none⟩ (.int .i64 nw')) p g base l sh cv pos cw nw' sy sk :=
  h.set 6 _ sh pos nw' sy sk (fun c i hi' => by
    unfold cxR
    by_cases h5 : i = 6
    · subst h5; simp
    · simp [h5])
theorem Ctx.shSet {w : World} {p g base : Nat} {l : List Nat} {sh : Int} {cv : Value} {pos : Nat} {cw : List Nat} {nw : Int} {sy : Option Addr} {sk : Nat} (h : Ctx w p g base l sh cv pos cw nw sy sk) (sh' : Int) : Ctx (w.setCell ⟨p, 1, none⟩ (.int .i64 sh')) p g base l sh' cv pos cw nw sy sk :=
  h.set 1 _ sh' pos nw sy sk (fun c i hi' => by
    unfold cxR
    by_cases h5 : i = 1
    · subst h5; simp
    · simp [h5])
theorem Ctx.sySet {w : World} {p g base : Nat} {l : List Nat} {sh : Int} {cv : Value} {pos : Nat} {cw : List Nat} {nw : Int} {sy : Option Addr} {sk : Nat} (h : Ctx w p g base l sh cv pos cw nw sy sk) (sy' : Option Addr) : Ctx (w.setCell ⟨p, 7, none⟩ (.pointer sy')) p g base l sh cv pos cw nw sy' sk :=
  h.set 7 _ sh pos nw sy' sk (fun c i hi' => by
    unfold cxR
    by_cases h5 : i = 7
    · subst h5; simp
    · simp [h5])
/-- a codeword is written -/
theorem CwTo.ctx {w w' : World} {p g base c : Nat} {l : List Nat} {sh : Int} {cv : Value} {pos : Nat} {cw cw' : List Nat} {nw : Int} {sy : Option Addr} {sk : Nat} {e : Ending} (h : Ctx w p g base l sh cv pos cw nw sy sk) (k : CwTo w p base (cxR g c l.length sh cv pos nw sy sk) cv cw' e w') :
    e = .returned (.tuple #[]) ∧ ∃ cv', Ctx w' p g base l sh cv' pos cw' nw sy sk ∧ But (fun k => k = p ∨ cv.ownBlock = some k) w w' := by
  obtain ⟨he, v', hr, ho, hne, hb, hat⟩ := k
  have hz := hb.size
  have hng : ∀ k, k = p ∨ cv.ownBlock = some k → k ≠ g := by
    rintro k (rfl | hk) e
    · exact h.ne.1 e
    · exact h.ne.2.2 (by rw [hk, e])
  have hng' : ¬ (g = p ∨ cv.ownBlock = some g) := fun e => hng g e rfl
  refine ⟨he, v', ⟨⟨c, hr.congr fun i hi' => ?_⟩, fun j x hx => (hb.cell (p := ⟨g, j, none⟩) h.pb.2.2.2 hng').trans (h.msg j x hx), ho, ⟨h.pb.1, by have := h.pb.2.1; omega, h.pb.2.2.1, by have := h.pb.2.2.2; omega⟩, h.ne.1, hne, ?_⟩, hb⟩
  · unfold cxR
    by_cases h4 : i = 4
    · subst h4; simp
    · simp [h4]
  · intro e1
    exact h.ne.2.2 (hat g h.pb.2.2.2 e1)
theorem and255b (x : Nat) (h : x < 256) : bits .and .u8 (x : Int) 255 = (x : Int) := by
  have := and_u8 x 255 h (by decide)
  rw [show ((255 : Nat) : Int) = 255 from rfl] at this
  rw [this, show x &&& 255 = x from by have := Nat.and_two_pow_sub_one_eq_mod x 8; simpa [Nat.mod_eq_of_lt h] using this]

def NcxTo (w : World) (l : List Nat) (e : Ending) (w' : World) : Prop := ∃ p g cv, e = .returned (.tuple #[pt p, .nilIface]) ∧ Ctx w' p g w.heap.size l 0 cv 0 [] (-1) none 0 ∧ Below w.heap.size w w'

set_option maxRecDepth 100000 in
set_option maxHeartbeats 4000000 in
theorem newCtx (w : World) (s : ByteArray) (hs : 1 ≤ s.size ∧ s.size ≤ 5000) (h7 : ∀ i (h : i < s.size), (s[i]'h).toNat < 128) : Calls Tryz.prog 114 #[.string s] w (NcxTo w (chs s)) := by
  have e190 := fun w => enc190 w s hs.2 h7
  have E190 := Lib.hid e190; clear e190
  have h256 : ∀ (i x : Nat), (chs s)[i]? = some x → x < 256 := fun i x hx => by
    by_cases hi' : i < s.size
    · rw [chs_at s i hi'] at hx
      have := h7 i hi'
      have h2 := Option.some.inj hx
      omega
    · rw [List.getElem?_eq_none (by rw [chs_len]; omega)] at hx; cases hx
  have H256 := Lib.hid h256; clear h256 h7
  obtain ⟨l, hl⟩ : ∃ l, chs s = l := ⟨_, rfl⟩
  obtain ⟨n, hn⟩ : ∃ n, s.size = n := ⟨_, rfl⟩
  have hln : l.length = n := by rw [← hl, chs_len, hn]
  rw [hl] at E190 H256 ⊢
  rw [hn] at hs
  clear hn
  have HL := Lib.hid hln; clear hln hl
  have hmk := mkB n (by omega)
  go_enter Tryz.func114, Tryz.ntmps114
  go_wp2_with fail
  refine (E190.out w).mono ?_
  rintro e w1 ⟨v, rfl, hown, hb1⟩
  rcases hown.shape with ⟨_, h0⟩ | ⟨gv, cc, rfl, hg1, hg2, _, hcells, _⟩
  · have := congrArg List.length h0
    rw [List.length_map, HL.out] at this
    simp at this; omega
  rw [List.length_map, HL.out]
  have hcl : ∀ i x, l[i]? = some x → w1.cell? ⟨gv, i, none⟩ = some (byt x) := fun i x hx => hcells i (byt x) (by rw [List.getElem?_map, hx]; rfl)
  have HC := Lib.hid hcl; clear hcl hcells hown
  have HB1 := Lib.hid hb1; clear hb1
  have o0 := Lib.hid (OwnV.made w1 5 (.int .u8 0) n w1.heap.size (by omega) (Nat.le_refl _))
  go_wp2_with fail
  go_loopw [6, 7] (fun s6 s7 wr => ∃ (i : Nat) (u : Value), u = s6 ∧ s7 = .int .i64 i ∧ i ≤ n ∧ OwnB wr w1.heap.size u (l.take i) ∧ Below w1.heap.size w1 wr) (fun _ s7 _ => n - (intOf s7).toNat)
  case atStart => exact ⟨0, _, rfl, rfl, Nat.zero_le _, o0.out, (Below.refl _ _).alloc (Nat.le_refl _) _⟩
  case round =>
    clear hmk o0
    obtain ⟨i, u, rfl, rfl, hin, hou, hb2⟩ := hrel
    obtain ⟨w2, rfl⟩ : ∃ w2 : World, w2 = wr := ⟨_, rfl⟩
    have OU := Lib.hid hou; clear hou
    have HB2 := Lib.hid hb2; clear hb2
    have htl : (l.take i).length = i := by rw [List.length_take, HL.out]; omega
    have HTL := Lib.hid htl; clear htl
    by_cases hi' : i < n
    · obtain ⟨x, hx⟩ : ∃ x, l[i]? = some x := ⟨_, List.getElem?_eq_getElem (by rw [HL.out]; exact hi')⟩
      have hx256 := H256.out i x hx
      have hc2 := (HB2.out.cell (p := ⟨gv, i, none⟩) hg2).trans (HC.out i x hx)
      have HX := Lib.hid hx; clear hx
      have ha := and255b x hx256
      have hll : ((l.take i).map byt).length + 1 ≤ 1000000 := by rw [List.length_map, HTL.out]; omega
      go_wp2_with ((with_reducible show wpList _ _ _ (Oper.mk (some 39) _ _ _ _ _ :: _) _ _); refine wpList_appV rfl (.tmp 36) (.tmp 38) 32 5 rfl Tryz.underlying32 (.int .u8 0) 1 infoB rfl (by decide) w1.heap.size u ((l.take i).map byt) rfl (OU.out.below ((Below.refl _ _).alloc (Nat.le_refl _) _)) ⟨w2.heap.size, 0, none⟩ 1 1 [_] rfl rfl (cell_one_new _ _ _) (one_u8 _) hll (by rw [World.size_alloc]; have := HB2.out.size; omega) ?_; intro u' w4 Hh; have AB := Lib.hid ((HB2.out.alloc HB2.out.size _).trans (Hh.out.but.below (by rw [World.size_alloc]; have := HB2.out.size; omega) (fun k hk e => by have := OU.out.lt e; omega))); have AO := Lib.hid Hh.out.own; clear Hh)
      go_roundw
      case rel => exact ⟨i + 1, u', rfl, by go_num, hi', by rw [List.take_add_one, HX.out, OwnB, List.map_append]; exact AO.out, AB.out⟩
      case measure => simp [intOf]; omega
    · obtain rfl : n = i := by omega
      rcases OU.out.shape with ⟨_, h0⟩ | ⟨gu, cu, rfl, hu1, hu2, _, huc, _⟩
      · have := congrArg List.length h0
        rw [List.length_map, HTL.out] at this
        simp at this; omega
      rw [List.length_map, HTL.out]
      have hall : l.take n = l := List.take_of_length_le (by rw [HL.out]; exact Nat.le_refl _)
      rw [hall] at huc
      have huc' : ∀ j x, l[j]? = some x → w2.cell? ⟨gu, j, none⟩ = some (byt x) := fun j x hx => huc j (byt x) (by rw [List.getElem?_map, hx]; rfl)
      have HUC := Lib.hid huc'; clear huc' huc hall
      have hmk := mkB n (by omega)
      go_wp2
      go_returns
      have r := row_litT (w2.alloc (.cells (madeCells #[.int .u8 0] n) 5)) #[.slice (some ⟨gu, 0, none⟩) n cu, .int .i64 0, .pointer none, .pointer none, .slice (some ⟨w2.heap.size, 0, none⟩) 0 n, .int .i64 0, .int .i64 (-1), .pointer none, .int .i64 0] 201 9 (cxR gu cu n 0 (.slice (some ⟨w2.heap.size, 0, none⟩) 0 n) 0 (-1) none 0) rfl
      rw [World.size_alloc] at r
      have z1 := HB1.out.size
      have z2 := HB2.out.size
      have b2 : Below w1.heap.size w1 _ := ((HB2.out.alloc z2 (.cells (madeCells #[.int .u8 0] n) 5)).alloc (by rw [World.size_alloc]; omega) (.cells #[.slice (some ⟨gu, 0, none⟩) n cu, .int .i64 0, .pointer none, .pointer none, .slice (some ⟨w2.heap.size, 0, none⟩) 0 n, .int .i64 0, .int .i64 (-1), .pointer none, .int .i64 0] 201))
      refine ⟨w2.heap.size + 1, gu, .slice (some ⟨w2.heap.size, 0, none⟩) 0 n, rfl, ⟨⟨cu, by rw [HL.out]; exact r⟩, fun j x hx => ?_, ?_, ?_, ?_⟩, HB1.out.trans (b2.mono z1)⟩
      · exact cell_al (show gu < _ by rw [World.size_alloc]; omega) (cell_al (show gu < _ from hu2) (HUC.out j x hx) _) _
      · exact ((OwnV.made w2 5 (.int .u8 0) n w.heap.size (by omega) (by omega)).below ((Below.refl _ _).alloc (Nat.le_refl _) _))
      · rw [World.size_alloc, World.size_alloc]; exact ⟨by omega, by omega, by omega, by omega⟩
      · exact ⟨by omega, fun e => by have e2 : w2.heap.size = w2.heap.size + 1 := Option.some.inj e; omega, fun e => by have e2 : w2.heap.size = gu := Option.some.inj e; omega⟩
end Go.Proofs.YtcnallabiffemaaGreatDoor
namespace Go.Proofs.YtcnallabiffemaaGreatDoor
open Go.RowKit (wrap32 wrap64 intOf Hid Below)
open Zx

set_option maxRecDepth 100000 in
set_option maxHeartbeats 4000000 in
/-- two digits are written -/
theorem ascDigits (w : World) (p g base : Nat) (l : List Nat) (sh : Int) (cv : Value) (pos : Nat) (cw : List Nat) (nw : Int) (sy : Option Addr) (sk : Nat) (h : Ctx w p g base l sh cv pos cw nw sy sk) (hl : l.length ≤ 5000) (hd : ∀ (j x : Nat), l[j]? = some x → 48 ≤ x ∧ x ≤ 57)
    (a b : Nat) (ha : l[pos]? = some a) (hb : l[pos + 1]? = some b) (hcw : cw.length ≤ 5000) (hbase : base ≤ w.heap.size) :
    Calls Tryz.prog 270 #[.agg #[], pt p] w fun e w' => e = .returned .nilIface ∧ ∃ cv', Ctx w' p g base l sh cv' (pos + 2) (cw ++ [130 + (a - 48) * 10 + (b - 48)]) nw sy sk ∧ But (fun k => k = p ∨ cv.ownBlock = some k) w w' := by
  have da := hd pos a ha
  have db := hd (pos + 1) b hb
  have hp1 : pos < l.length := (List.getElem?_eq_some_iff.1 ha).1
  have hp2 : pos + 1 < l.length := (List.getElem?_eq_some_iff.1 hb).1
  obtain ⟨m, hm⟩ : ∃ m, l.length = m := ⟨_, rfl⟩
  obtain ⟨c, hr⟩ := h.row
  have cnt : ∀ w', Ctx w' p g base l sh cv pos cw nw sy sk → Calls Tryz.prog 272 #[.slice (some ⟨g, 0, none⟩) m c, .int .i64 pos] w' fun e w'' => e = .returned (.int .i64 ((m - pos : Nat) : Int)) ∧ w'' = w' := fun w' h' => by
    refine (countC w' g m c pos (fun j => l.getD j 0) (by omega) (by omega) (fun j hj => ?_)).mono fun e w'' k => ⟨k.1, k.2.symm⟩
    have hx := List.getElem?_eq_getElem (l := l) (i := j) (by omega)
    have hg : l.getD j 0 = l[j]'(by omega) := by rw [List.getD_eq_getElem?_getD, hx]; rfl
    simp only [hg]
    exact ⟨h'.msg j _ hx, hd j _ hx⟩
  have CNT := Lib.hid cnt; clear cnt hd
  have msg : ∀ w', Cx w' p (cxR g c m sh cv pos nw sy sk) → Calls Tryz.prog 273 #[pt p] w' fun e w'' => e = .returned (.slice (some ⟨g, 0, none⟩) m c) ∧ w'' = w' := fun w' h' => (getMsgC w' p _ (some ⟨g, 0, none⟩) m c h' rfl).mono fun e w'' k => ⟨k.1, k.2.symm⟩
  have MSG := Lib.hid msg; clear msg
  have dig : ∀ w', Calls Tryz.prog 274 #[byt a, byt b] w' fun e w'' => e = .returned (.tuple #[byt (130 + (a - 48) * 10 + (b - 48)), .nilIface]) ∧ w'' = w' := fun w' => (twoDigitsC w' a b da db).mono fun e w'' k => ⟨k.1, k.2.symm⟩
  have DIG := Lib.hid dig; clear dig
  obtain ⟨z, hz⟩ : ∃ z, 130 + (a - 48) * 10 + (b - 48) = z := ⟨_, rfl⟩
  rw [hz] at DIG ⊢
  clear hz da db
  rw [hm] at hp1 hp2 hl hr
  have H := Lib.hid h; clear h
  have R := Lib.hid hr; clear hr
  have HM := Lib.hid hm; clear hm
  have hge : decide ((2 : Int) ≤ ((m - pos : Nat) : Int)) = true := decide_eq_true (by omega)
  obtain ⟨k, hk⟩ : ∃ k, m - pos = k := ⟨_, rfl⟩
  rw [hk] at CNT hge
  clear hk
  have HA := Lib.hid ha; have HB := Lib.hid hb
  clear ha hb
  obtain ⟨W0, hW0⟩ : ∃ W0, w.alloc (.cells #[] 256) = W0 := ⟨_, rfl⟩
  have B0 := Lib.hid (show Below w.heap.size w W0 by rw [← hW0]; exact (Below.refl _ _).alloc (Nat.le_refl _) _)
  have H1 := Lib.hid (H.out.below B0.out)
  have R1 := Lib.hid (rowIs_below R.out B0.out R.out.lt)
  clear H R
  go_enter Tryz.func270, Tryz.ntmps270
  go_wp2_with fail
  clear hW0
  have c5 : W0.cell? ⟨p, 5, none⟩ = some (.int .i64 pos) := R1.out.cell (i := 5) (by omega)
  go_quiet (first | ((go_at_call 273; refine Calls.quiet_of_same (MSG.out _ ?_); exact R1.out)) | ((go_at_call 272; refine Calls.quiet_of_same (CNT.out _ ?_); exact H1.out.dn _)))
  go_wp2_with fail
  have H2 := Lib.hid (H1.out.dn nq)
  have R2 : Hid (Cx (W0.drewN nq) p (cxR g c m sh cv pos nw sy sk)) := Lib.hid R1.out
  have B2 := Lib.hid (B0.out.trans ((below_dn W0.heap.size W0 nq).mono B0.out.size))
  clear H1 R1 B0 c5
  generalize W0.drewN nq = W1 at H2 R2 B2 ⊢
  have c5 : W1.cell? ⟨p, 5, none⟩ = some (.int .i64 pos) := R2.out.cell (i := 5) (by omega)
  have ca := H2.out.msg pos a HA.out
  have cb := H2.out.msg (pos + 1) b HB.out
  obtain ⟨J, hJ⟩ : ∃ J, pos + 1 = J := ⟨_, rfl⟩
  rw [hJ] at cb hp2
  have eJ : ((pos : Int) + 1).toNat = J := by omega
  have hJm : (pos : Int) + 1 < (m : Int) := by omega
  have hJ0 : (0 : Int) ≤ (pos : Int) + 1 := by omega
  have HJ := Lib.hid hJ; clear hJ
  go_quiet (first | ((go_at_call 273; refine Calls.quiet_of_same (MSG.out _ ?_); exact R2.out)) | ((go_at_call 274; exact Calls.quiet_of_same (DIG.out _))))
  have H3 := Lib.hid (H2.out.dn nq)
  have R3 : Hid (Cx (W1.drewN nq) p (cxR g c m sh cv pos nw sy sk)) := Lib.hid R2.out
  have B3 := Lib.hid (B2.out.trans ((below_dn W1.heap.size W1 nq).mono B2.out.size))
  clear H2 R2 B2 c5 ca cb
  generalize W1.drewN nq = W2 at H3 R3 B3 ⊢
  go_wp2_with fail
  refine (writeC W2 p base _ cv cw z R3.out rfl H3.out.own H3.out.ne.2.1 hcw (by have := B3.out.size; omega)).mono ?_
  intro e w3 hcx
  have hcx2 := CwTo.ctx (c := c) H3.out (by rw [HM.out]; exact hcx)
  obtain ⟨rfl, cv', hc3, hb3⟩ := hcx2
  clear hcx
  have B4 := Lib.hid ((But.ofAll (S := fun k => k = p ∨ cv.ownBlock = some k) B3.out).trans hb3)
  clear hb3 B3
  obtain ⟨c', r3⟩ := hc3.row
  have c5 : w3.cell? ⟨p, 5, none⟩ = some (.int .i64 pos) := r3.cell (i := 5) (by omega)
  have f5 := r3.frozen 5
  have H4 := Lib.hid (hc3.pos (pos + 2))
  clear hc3 r3
  have B5 := Lib.hid (B4.out.thenSet (a := ⟨p, 5, none⟩) (.inl (.inl rfl)) (.int .i64 (pos + 2 : Nat)))
  go_wp2
  go_ret
  exact ⟨rfl, cv', H4.out, B5.out⟩
end Go.Proofs.YtcnallabiffemaaGreatDoor
namespace Go.Proofs.YtcnallabiffemaaGreatDoor
open Go.RowKit (wrap32 wrap64 intOf Hid Below)
open Zx

/-- the package's table of symbols: rectangular, data, check, width, height, regions, a block's data and check codewords, two functions -/
abbrev SiT := Bool × Int × Int × Int × Int × Int × Int × Int × Nat × Nat
def siTab : List SiT := [(false, 3, 5, 8, 8, 1, 3, 5, 224, 225),
  (false, 5, 7, 10, 10, 1, 5, 7, 224, 225),
  (true, 5, 7, 16, 6, 1, 5, 7, 224, 225),
  (false, 8, 10, 12, 12, 1, 8, 10, 224, 225),
  (true, 10, 11, 14, 6, 2, 10, 11, 224, 225),
  (false, 12, 12, 14, 14, 1, 12, 12, 224, 225),
  (true, 16, 14, 24, 10, 1, 16, 14, 224, 225),
  (false, 18, 14, 16, 16, 1, 18, 14, 224, 225),
  (false, 22, 18, 18, 18, 1, 22, 18, 224, 225),
  (true, 22, 18, 16, 10, 2, 22, 18, 224, 225),
  (false, 30, 20, 20, 20, 1, 30, 20, 224, 225),
  (true, 32, 24, 16, 14, 2, 32, 24, 224, 225),
  (false, 36, 24, 22, 22, 1, 36, 24, 224, 225),
  (false, 44, 28, 24, 24, 1, 44, 28, 224, 225),
  (true, 49, 28, 22, 14, 2, 49, 28, 224, 225),
  (false, 62, 36, 14, 14, 4, 62, 36, 224, 225),
  (false, 86, 42, 16, 16, 4, 86, 42, 224, 225),
  (false, 114, 48, 18, 18, 4, 114, 48, 224, 225),
  (false, 144, 56, 20, 20, 4, 144, 56, 224, 225),
  (false, 174, 68, 22, 22, 4, 174, 68, 224, 225),
  (false, 204, 84, 24, 24, 4, 102, 42, 224, 225),
  (false, 280, 112, 14, 14, 16, 140, 56, 224, 225),
  (false, 368, 144, 16, 16, 16, 92, 36, 224, 225),
  (false, 456, 192, 18, 18, 16, 114, 48, 224, 225),
  (false, 576, 224, 20, 20, 16, 144, 56, 224, 225),
  (false, 696, 272, 22, 22, 16, 174, 68, 224, 225),
  (false, 816, 336, 24, 24, 16, 136, 56, 224, 225),
  (false, 1050, 408, 18, 18, 36, 175, 68, 224, 225),
  (false, 1304, 496, 20, 20, 36, 163, 62, 224, 225),
  (false, 1558, 620, 22, 22, 36, -1, 62, 226, 227)]
def siOf (t : SiT) : List Value := [.bool t.1, .int .i64 t.2.1, .int .i64 t.2.2.1, .int .i64 t.2.2.2.1, .int .i64 t.2.2.2.2.1, .int .i64 t.2.2.2.2.2.1, .int .i64 t.2.2.2.2.2.2.1, .int .i64 t.2.2.2.2.2.2.2.1, .func (Fn.func t.2.2.2.2.2.2.2.2.1) #[] #[], .func (Fn.func t.2.2.2.2.2.2.2.2.2) #[] #[]]
def siAt (j : Nat) : SiT := siTab.getD j (false, 0, 0, 0, 0, 0, 0, 0, 0, 0)
def siF (t : SiT) : Nat → Value := fun i => (siOf t).getD i .nilIface

theorem newRS (w : World) (r : Bool) (a b c d e f g : Int) : Calls Tryz.prog 196 #[.bool r, .int .i64 a, .int .i64 b, .int .i64 c, .int .i64 d, .int .i64 e, .int .i64 f, .int .i64 g] w fun en w' => en = .returned (pt w.heap.size) ∧ w' = w.alloc (.cells #[.bool r, .int .i64 a, .int .i64 b, .int .i64 c, .int .i64 d, .int .i64 e, .int .i64 f, .int .i64 g, .func (Fn.func 224) #[] #[], .func (Fn.func 225) #[] #[]] 212) := by
  go_enter Tryz.func196, Tryz.ntmps196
  go_wp2
  go_ret
  exact ⟨rfl, rfl⟩
theorem newSi (w : World) (r : Bool) (a b c d e : Int) : Calls Tryz.prog 195 #[.bool r, .int .i64 a, .int .i64 b, .int .i64 c, .int .i64 d, .int .i64 e] w fun en w' => en = .returned (pt w.heap.size) ∧ w' = w.alloc (.cells #[.bool r, .int .i64 a, .int .i64 b, .int .i64 c, .int .i64 d, .int .i64 e, .int .i64 a, .int .i64 b, .func (Fn.func 224) #[] #[], .func (Fn.func 225) #[] #[]] 212) := by
  go_enter Tryz.func195, Tryz.ntmps195
  go_wp2_with fail
  refine (newRS w r a b c d e a b).mono ?_
  rintro en w' ⟨rfl, rfl⟩
  go_wp2
  go_ret
  exact ⟨rfl, rfl⟩
theorem siRow (w : World) (t : SiT) : (w.alloc (.cells (siOf t).toArray 212)).rowIs w.heap.size 212 10 (siF t) := row_litT w _ 212 10 (siF t) rfl
theorem run_store_fn {w : World} {a : Addr} {v : Value} (fn : Fn) (fs cs : Array Value) (hc : w.cell? a = some v) (hf : w.frozen? a = false) : (store a (.func fn fs cs)).run Tryz.prog w = .ok () (w.setCell a (.func fn fs cs)) := by
  rw [run_store _ _ _ _ _ rfl, hc]
  simp [hf]
theorem new144 (w : World) : Calls Tryz.prog 197 #[] w fun en w' => en = .returned (pt w.heap.size) ∧ w'.rowIs w.heap.size 212 10 (siF (siAt 29)) ∧ w'.heap.size = w.heap.size + 1 ∧ Below w.heap.size w w' := by
  have r0 : (w.alloc (.cells #[.bool false, .int .i64 1558, .int .i64 620, .int .i64 22, .int .i64 22, .int .i64 36, .int .i64 (-1), .int .i64 62, .func (Fn.func 224) #[] #[], .func (Fn.func 225) #[] #[]] 212)).rowIs w.heap.size 212 10 (siF (false, 1558, 620, 22, 22, 36, -1, 62, 224, 225)) := siRow w (false, 1558, 620, 22, 22, 36, -1, 62, 224, 225)
  have r1 : (w.alloc (.cells #[.bool false, .int .i64 1558, .int .i64 620, .int .i64 22, .int .i64 22, .int .i64 36, .int .i64 (-1), .int .i64 62, .func (Fn.func 226) #[] #[], .func (Fn.func 225) #[] #[]] 212)).rowIs w.heap.size 212 10 (siF (false, 1558, 620, 22, 22, 36, -1, 62, 226, 225)) := siRow w (false, 1558, 620, 22, 22, 36, -1, 62, 226, 225)
  have r2 : (w.alloc (.cells #[.bool false, .int .i64 1558, .int .i64 620, .int .i64 22, .int .i64 22, .int .i64 36, .int .i64 (-1), .int .i64 62, .func (Fn.func 226) #[] #[], .func (Fn.func 227) #[] #[]] 212)).rowIs w.heap.size 212 10 (siF (false, 1558, 620, 22, 22, 36, -1, 62, 226, 227)) := siRow w (false, 1558, 620, 22, 22, 36, -1, 62, 226, 227)
  have s8 := run_store_fn (Fn.func 226) #[] #[] (r0.cell (i := 8) (by omega)) (r0.frozen 8)
  have s9 := run_store_fn (Fn.func 227) #[] #[] (r1.cell (i := 9) (by omega)) (r1.frozen 9)
  have R2 := Lib.hid r2
  clear r0 r1 r2
  go_enter Tryz.func197, Tryz.ntmps197
  go_wp2_with fail
  refine (newRS w false 1558 620 22 22 36 (-1) 62).mono ?_
  rintro en w' ⟨rfl, rfl⟩
  go_wp2
  go_ret
  exact ⟨rfl, R2.out, by simp, (Below.refl _ _).alloc (Nat.le_refl _) _⟩

/-- so many symbols are there -/
structure Sis (w0 w : World) (k : Nat) : Prop where
  bel : Below w0.heap.size w0 w
  sz : w.heap.size = w0.heap.size + k
  row : ∀ j, j < k → w.rowIs (w0.heap.size + j) 212 10 (siF (siAt j))
theorem Sis.start (w : World) : Sis w w 0 := ⟨Below.refl _ _, rfl, fun j h => absurd h (Nat.not_lt_zero _)⟩
theorem Sis.next {w0 w w' : World} {k : Nat} (h : Sis w0 w k) (hr : w'.rowIs w.heap.size 212 10 (siF (siAt k))) (hz : w'.heap.size = w.heap.size + 1) (hb : Below w.heap.size w w') : Sis w0 w' (k + 1) :=
  ⟨h.bel.trans (hb.mono h.bel.size), by rw [hz, h.sz]; rfl, fun j hj => by
    by_cases hjk : j < k
    · exact rowIs_below (h.row j hjk) hb (by rw [h.sz]; omega)
    · obtain rfl : j = k := by omega
      rw [← h.sz]; exact hr⟩
theorem Sis.si {w0 w : World} {k : Nat} (h : Sis w0 w k) (r : Bool) (a b c d e : Int) (ht : siAt k = (r, a, b, c, d, e, a, b, 224, 225)) : Calls Tryz.prog 195 #[.bool r, .int .i64 a, .int .i64 b, .int .i64 c, .int .i64 d, .int .i64 e] w fun en w' => en = .returned (pt (w0.heap.size + k)) ∧ Sis w0 w' (k + 1) :=
  (newSi w r a b c d e).mono fun en w' hh => by
    obtain ⟨rfl, rfl⟩ := hh
    refine ⟨by rw [h.sz], h.next (by rw [ht]; exact siRow w (r, a, b, c, d, e, a, b, 224, 225)) (World.size_alloc _ _) ((Below.refl _ _).alloc (Nat.le_refl _) _)⟩
theorem Sis.rs {w0 w : World} {k : Nat} (h : Sis w0 w k) (r : Bool) (a b c d e f g : Int) (ht : siAt k = (r, a, b, c, d, e, f, g, 224, 225)) : Calls Tryz.prog 196 #[.bool r, .int .i64 a, .int .i64 b, .int .i64 c, .int .i64 d, .int .i64 e, .int .i64 f, .int .i64 g] w fun en w' => en = .returned (pt (w0.heap.size + k)) ∧ Sis w0 w' (k + 1) :=
  (newRS w r a b c d e f g).mono fun en w' hh => by
    obtain ⟨rfl, rfl⟩ := hh
    refine ⟨by rw [h.sz], h.next (by rw [ht]; exact siRow w (r, a, b, c, d, e, f, g, 224, 225)) (World.size_alloc _ _) ((Below.refl _ _).alloc (Nat.le_refl _) _)⟩

def SisTo (w : World) (e : Ending) (w' : World) : Prop := e = .returned (.slice (some ⟨w.heap.size + 30, 0, none⟩) 30 30) ∧ w'.rowIs (w.heap.size + 30) 127 30 (fun j => pt (w.heap.size + j)) ∧ (∀ j, j < 30 → w'.rowIs (w.heap.size + j) 212 10 (siF (siAt j))) ∧ Below w.heap.size w w'
set_option maxRecDepth 100000 in
set_option maxHeartbeats 4000000 in
theorem sisC (w : World) : Calls Tryz.prog 131 #[] w (SisTo w) := by
  have S := Lib.hid (Sis.start w)
  go_enter Tryz.func131, Tryz.ntmps131
  go_wp2_with fail
  refine (S.out.si _ _ _ _ _ _ rfl).mono ?_
  clear S
  rintro e w1 ⟨rfl, hs⟩
  have S := Lib.hid hs; clear hs
  go_wp2_with fail
  refine (S.out.si _ _ _ _ _ _ rfl).mono ?_
  clear S
  rintro e w2 ⟨rfl, hs⟩
  have S := Lib.hid hs; clear hs
  go_wp2_with fail
  refine (S.out.si _ _ _ _ _ _ rfl).mono ?_
  clear S
  rintro e w3 ⟨rfl, hs⟩
  have S := Lib.hid hs; clear hs
  go_wp2_with fail
  refine (S.out.si _ _ _ _ _ _ rfl).mono ?_
  clear S
  rintro e w4 ⟨rfl, hs⟩
  have S := Lib.hid hs; clear hs
  go_wp2_with fail
  refine (S.out.si _ _ _ _ _ _ rfl).mono ?_
  clear S
  rintro e w5 ⟨rfl, hs⟩
  have S := Lib.hid hs; clear hs
  go_wp2_with fail
  refine (S.out.si _ _ _ _ _ _ rfl).mono ?_
  clear S
  rintro e w6 ⟨rfl, hs⟩
  have S := Lib.hid hs; clear hs
  go_wp2_with fail
  refine (S.out.si _ _ _ _ _ _ rfl).mono ?_
  clear S
  rintro e w7 ⟨rfl, hs⟩
  have S := Lib.hid hs; clear hs
  go_wp2_with fail
  refine (S.out.si _ _ _ _ _ _ rfl).mono ?_
  clear S
  rintro e w8 ⟨rfl, hs⟩
  have S := Lib.hid hs; clear hs
  go_wp2_with fail
  refine (S.out.si _ _ _ _ _ _ rfl).mono ?_
  clear S
  rintro e w9 ⟨rfl, hs⟩
  have S := Lib.hid hs; clear hs
  go_wp2_with fail
  refine (S.out.si _ _ _ _ _ _ rfl).mono ?_
  clear S
  rintro e w10 ⟨rfl, hs⟩
  have S := Lib.hid hs; clear hs
  go_wp2_with fail
  refine (S.out.si _ _ _ _ _ _ rfl).mono ?_
  clear S
  rintro e w11 ⟨rfl, hs⟩
  have S := Lib.hid hs; clear hs
  go_wp2_with fail
  refine (S.out.si _ _ _ _ _ _ rfl).mono ?_
  clear S
  rintro e w12 ⟨rfl, hs⟩
  have S := Lib.hid hs; clear hs
  go_wp2_with fail
  refine (S.out.si _ _ _ _ _ _ rfl).mono ?_
  clear S
  rintro e w13 ⟨rfl, hs⟩
  have S := Lib.hid hs; clear hs
  go_wp2_with fail
  refine (S.out.si _ _ _ _ _ _ rfl).mono ?_
  clear S
  rintro e w14 ⟨rfl, hs⟩
  have S := Lib.hid hs; clear hs
  go_wp2_with fail
  refine (S.out.si _ _ _ _ _ _ rfl).mono ?_
  clear S
  rintro e w15 ⟨rfl, hs⟩
  have S := Lib.hid hs; clear hs
  go_wp2_with fail
  refine (S.out.si _ _ _ _ _ _ rfl).mono ?_
  clear S
  rintro e w16 ⟨rfl, hs⟩
  have S := Lib.hid hs; clear hs
  go_wp2_with fail
  refine (S.out.si _ _ _ _ _ _ rfl).mono ?_
  clear S
  rintro e w17 ⟨rfl, hs⟩
  have S := Lib.hid hs; clear hs
  go_wp2_with fail
  refine (S.out.si _ _ _ _ _ _ rfl).mono ?_
  clear S
  rintro e w18 ⟨rfl, hs⟩
  have S := Lib.hid hs; clear hs
  go_wp2_with fail
  refine (S.out.si _ _ _ _ _ _ rfl).mono ?_
  clear S
  rintro e w19 ⟨rfl, hs⟩
  have S := Lib.hid hs; clear hs
  go_wp2_with fail
  refine (S.out.si _ _ _ _ _ _ rfl).mono ?_
  clear S
  rintro e w20 ⟨rfl, hs⟩
  have S := Lib.hid hs; clear hs
  go_wp2_with fail
  refine (S.out.rs _ _ _ _ _ _ _ _ rfl).mono ?_
  clear S
  rintro e w21 ⟨rfl, hs⟩
  have S := Lib.hid hs; clear hs
  go_wp2_with fail
  refine (S.out.rs _ _ _ _ _ _ _ _ rfl).mono ?_
  clear S
  rintro e w22 ⟨rfl, hs⟩
  have S := Lib.hid hs; clear hs
  go_wp2_with fail
  refine (S.out.rs _ _ _ _ _ _ _ _ rfl).mono ?_
  clear S
  rintro e w23 ⟨rfl, hs⟩
  have S := Lib.hid hs; clear hs
  go_wp2_with fail
  refine (S.out.rs _ _ _ _ _ _ _ _ rfl).mono ?_
  clear S
  rintro e w24 ⟨rfl, hs⟩
  have S := Lib.hid hs; clear hs
  go_wp2_with fail
  refine (S.out.rs _ _ _ _ _ _ _ _ rfl).mono ?_
  clear S
  rintro e w25 ⟨rfl, hs⟩
  have S := Lib.hid hs; clear hs
  go_wp2_with fail
  refine (S.out.rs _ _ _ _ _ _ _ _ rfl).mono ?_
  clear S
  rintro e w26 ⟨rfl, hs⟩
  have S := Lib.hid hs; clear hs
  go_wp2_with fail
  refine (S.out.rs _ _ _ _ _ _ _ _ rfl).mono ?_
  clear S
  rintro e w27 ⟨rfl, hs⟩
  have S := Lib.hid hs; clear hs
  go_wp2_with fail
  refine (S.out.rs _ _ _ _ _ _ _ _ rfl).mono ?_
  clear S
  rintro e w28 ⟨rfl, hs⟩
  have S := Lib.hid hs; clear hs
  go_wp2_with fail
  refine (S.out.rs _ _ _ _ _ _ _ _ rfl).mono ?_
  clear S
  rintro e w29 ⟨rfl, hs⟩
  have S := Lib.hid hs; clear hs
  go_wp2_with fail
  refine (new144 _).mono ?_
  rintro e w30 ⟨rfl, hr, hz, hb⟩
  have hS := S.out.next hr hz hb
  have hz30 := hS.sz
  rw [S.out.sz]
  have S2 := Lib.hid hS; clear hS S hr hz hb
  go_wp2
  go_ret
  have S3 : Sis w w30 30 := S2.out
  have r := row_litT w30 (((List.range 30).map (fun j => pt (w.heap.size + j))).toArray) 127 30 (fun j => pt (w.heap.size + j)) rfl
  rw [S3.sz] at r
  exact ⟨rfl, r, fun j hj => (S3.row j hj).alloc _, S3.bel.alloc (by rw [S3.sz]; exact Nat.le_add_right _ _) _⟩
end Go.Proofs.YtcnallabiffemaaGreatDoor
namespace Go.Proofs.YtcnallabiffemaaGreatDoor
open Go.RowKit (wrap32 wrap64 intOf Hid Below)
open Zx

/-- a symbol of the package's table, at a place -/
abbrev SiR (w : World) (b : Nat) (r : Bool) (cap err mw mh rg rbd rbe : Nat) : Prop := w.rowIs b 212 10 (siF (r, (cap : Int), (err : Int), (mw : Int), (mh : Int), (rg : Int), (rbd : Int), (rbe : Int), 224, 225))

section
variable (w : World) (b : Nat) (r : Bool) (cap err mw mh rg rbd rbe : Nat)
theorem capC (h : SiR w b r cap err mw mh rg rbd rbe) : Calls Tryz.prog 128 #[pt b] w fun e w' => e = .returned (.int .i64 cap) ∧ w' = w := by
  have c1 : w.cell? ⟨b, 1, none⟩ = some (.int .i64 cap) := h.cell (i := 1) (by omega)
  go_enter Tryz.func128, Tryz.ntmps128
  go_wp2
  go_ret
  exact ⟨rfl, rfl⟩
theorem errC (h : SiR w b r cap err mw mh rg rbd rbe) : Calls Tryz.prog 136 #[pt b] w fun e w' => e = .returned (.int .i64 err) ∧ w' = w := by
  have c1 : w.cell? ⟨b, 2, none⟩ = some (.int .i64 err) := h.cell (i := 2) (by omega)
  go_enter Tryz.func136, Tryz.ntmps136
  go_wp2
  go_ret
  exact ⟨rfl, rfl⟩
theorem mwC (h : SiR w b r cap err mw mh rg rbd rbe) : Calls Tryz.prog 153 #[pt b] w fun e w' => e = .returned (.int .i64 mw) ∧ w' = w := by
  have c1 : w.cell? ⟨b, 3, none⟩ = some (.int .i64 mw) := h.cell (i := 3) (by omega)
  go_enter Tryz.func153, Tryz.ntmps153
  go_wp2
  go_ret
  exact ⟨rfl, rfl⟩
theorem mhC (h : SiR w b r cap err mw mh rg rbd rbe) : Calls Tryz.prog 151 #[pt b] w fun e w' => e = .returned (.int .i64 mh) ∧ w' = w := by
  have c1 : w.cell? ⟨b, 4, none⟩ = some (.int .i64 mh) := h.cell (i := 4) (by omega)
  go_enter Tryz.func151, Tryz.ntmps151
  go_wp2
  go_ret
  exact ⟨rfl, rfl⟩
def hR (rg : Nat) : Nat := if rg = 1 then 1 else if rg = 2 ∨ rg = 4 then 2 else if rg = 16 then 4 else 6
def vR (rg : Nat) : Nat := if rg = 1 ∨ rg = 2 then 1 else if rg = 4 then 2 else if rg = 16 then 4 else 6
theorem horC (h : SiR w b r cap err mw mh rg rbd rbe) (hrg : rg = 1 ∨ rg = 2 ∨ rg = 4 ∨ rg = 16 ∨ rg = 36) : Calls Tryz.prog 141 #[pt b] w fun e w' => e = .returned (.int .i64 (hR rg)) ∧ w' = w := by
  have c1 : w.cell? ⟨b, 5, none⟩ = some (.int .i64 rg) := h.cell (i := 5) (by omega)
  go_enter Tryz.func141, Tryz.ntmps141
  rcases hrg with rfl | rfl | rfl | rfl | rfl <;> (go_wp2; go_ret; exact ⟨rfl, rfl⟩)
theorem verC (h : SiR w b r cap err mw mh rg rbd rbe) (hrg : rg = 1 ∨ rg = 2 ∨ rg = 4 ∨ rg = 16 ∨ rg = 36) : Calls Tryz.prog 142 #[pt b] w fun e w' => e = .returned (.int .i64 (vR rg)) ∧ w' = w := by
  have c1 : w.cell? ⟨b, 5, none⟩ = some (.int .i64 rg) := h.cell (i := 5) (by omega)
  go_enter Tryz.func142, Tryz.ntmps142
  rcases hrg with rfl | rfl | rfl | rfl | rfl <;> (go_wp2; go_ret; exact ⟨rfl, rfl⟩)
theorem hR_le (rg : Nat) : hR rg ≤ 6 := by unfold hR; split <;> (try split) <;> (try split) <;> omega
theorem vR_le (rg : Nat) : vR rg ≤ 6 := by unfold vR; split <;> (try split) <;> (try split) <;> omega
theorem dwC (h : SiR w b r cap err mw mh rg rbd rbe) (hrg : rg = 1 ∨ rg = 2 ∨ rg = 4 ∨ rg = 16 ∨ rg = 36) (hm : mw ≤ 200) : Calls Tryz.prog 71 #[pt b] w fun e w' => e = .returned (.int .i64 (hR rg * mw : Nat)) ∧ ∃ n, w' = w.drewN n := by
  have c1 : w.cell? ⟨b, 3, none⟩ = some (.int .i64 mw) := h.cell (i := 3) (by omega)
  have hc := fun w' (h' : SiR w' b r cap err mw mh rg rbd rbe) => horC w' b r cap err mw mh rg rbd rbe h' hrg
  have HC := Lib.hid hc; clear hc
  have H := Lib.hid h; clear h
  have hl := hR_le rg
  generalize hR rg = q at HC hl ⊢
  have hb : q * mw ≤ 6 * 200 := Nat.mul_le_mul hl hm
  have hw : IntKind.i64.wrap ((q : Int) * (mw : Int)) = ((q * mw : Nat) : Int) := by rw [← Int.natCast_mul]; exact wraps_i64 _ (by omega) (by omega)
  generalize q * mw = z at hw hb ⊢
  go_enter Tryz.func71, Tryz.ntmps71
  go_wp2_with fail
  go_quiet ((go_at_call 141; exact Calls.quiet_of_same (HC.out _ H.out)))
  go_wp2
  go_ret
  exact ⟨rfl, _, rfl⟩
theorem dhC (h : SiR w b r cap err mw mh rg rbd rbe) (hrg : rg = 1 ∨ rg = 2 ∨ rg = 4 ∨ rg = 16 ∨ rg = 36) (hm : mh ≤ 200) : Calls Tryz.prog 72 #[pt b] w fun e w' => e = .returned (.int .i64 (vR rg * mh : Nat)) ∧ ∃ n, w' = w.drewN n := by
  have c1 : w.cell? ⟨b, 4, none⟩ = some (.int .i64 mh) := h.cell (i := 4) (by omega)
  have hc := fun w' (h' : SiR w' b r cap err mw mh rg rbd rbe) => verC w' b r cap err mw mh rg rbd rbe h' hrg
  have HC := Lib.hid hc; clear hc
  have H := Lib.hid h; clear h
  have hl := vR_le rg
  generalize vR rg = q at HC hl ⊢
  have hb : q * mh ≤ 6 * 200 := Nat.mul_le_mul hl hm
  have hw : IntKind.i64.wrap ((q : Int) * (mh : Int)) = ((q * mh : Nat) : Int) := by rw [← Int.natCast_mul]; exact wraps_i64 _ (by omega) (by omega)
  generalize q * mh = z at hw hb ⊢
  go_enter Tryz.func72, Tryz.ntmps72
  go_wp2_with fail
  go_quiet ((go_at_call 142; exact Calls.quiet_of_same (HC.out _ H.out)))
  go_wp2
  go_ret
  exact ⟨rfl, _, rfl⟩
theorem swC (h : SiR w b r cap err mw mh rg rbd rbe) (hrg : rg = 1 ∨ rg = 2 ∨ rg = 4 ∨ rg = 16 ∨ rg = 36) (hm : mw ≤ 200) : Calls Tryz.prog 132 #[pt b] w fun e w' => e = .returned (.int .i64 (hR rg * mw + hR rg * 2 : Nat)) ∧ ∃ n, w' = w.drewN n := by
  have d := dwC w b r cap err mw mh rg rbd rbe h hrg hm
  have hc := fun w' (h' : SiR w' b r cap err mw mh rg rbd rbe) => horC w' b r cap err mw mh rg rbd rbe h' hrg
  have HC := Lib.hid hc; clear hc
  have H := Lib.hid h; clear h
  have hl := hR_le rg
  have hb : hR rg * mw ≤ 6 * 200 := Nat.mul_le_mul hl hm
  generalize hR rg = q at HC hl hb d ⊢
  generalize q * mw = z at hb d ⊢
  go_enter Tryz.func132, Tryz.ntmps132
  go_wp2_with fail
  refine d.mono ?_
  rintro e w' ⟨rfl, n, rfl⟩
  go_wp2_with fail
  refine (HC.out _ (show SiR (w.drewN n) b r cap err mw mh rg rbd rbe from H.out)).mono ?_
  rintro e w' ⟨rfl, rfl⟩
  go_wp2
  go_ret
  exact ⟨congrArg Ending.returned (val_int (by omega)), _, rfl⟩
theorem shC (h : SiR w b r cap err mw mh rg rbd rbe) (hrg : rg = 1 ∨ rg = 2 ∨ rg = 4 ∨ rg = 16 ∨ rg = 36) (hm : mh ≤ 200) : Calls Tryz.prog 134 #[pt b] w fun e w' => e = .returned (.int .i64 (vR rg * mh + vR rg * 2 : Nat)) ∧ ∃ n, w' = w.drewN n := by
  have d := dhC w b r cap err mw mh rg rbd rbe h hrg hm
  have hc := fun w' (h' : SiR w' b r cap err mw mh rg rbd rbe) => verC w' b r cap err mw mh rg rbd rbe h' hrg
  have HC := Lib.hid hc; clear hc
  have H := Lib.hid h; clear h
  have hl := vR_le rg
  have hb : vR rg * mh ≤ 6 * 200 := Nat.mul_le_mul hl hm
  generalize vR rg = q at HC hl hb d ⊢
  generalize q * mh = z at hb d ⊢
  go_enter Tryz.func134, Tryz.ntmps134
  go_wp2_with fail
  refine d.mono ?_
  rintro e w' ⟨rfl, n, rfl⟩
  go_wp2_with fail
  refine (HC.out _ (show SiR (w.drewN n) b r cap err mw mh rg rbd rbe from H.out)).mono ?_
  rintro e w' ⟨rfl, rfl⟩
  go_wp2
  go_ret
  exact ⟨congrArg Ending.returned (val_int (by omega)), _, rfl⟩
theorem w64q (a b : Nat) (h : a ≤ 5000) : wrap64 ((a : Int) / (b : Int)) = ((a / b : Nat) : Int) := by
  have h1 : a / b ≤ a := Nat.div_le_self a b
  rw [← Int.natCast_ediv]
  obtain ⟨q, hq⟩ : ∃ q, a / b = q := ⟨_, rfl⟩
  rw [hq] at h1 ⊢
  clear hq
  exact IntWalk.wrap64_in _ (by omega)
theorem ent224 (c : Array Value) (w : World) : (callFunc 224 c).run Tryz.prog w = .ok (.enter 224 c) w := enterC Tryz.func224 (by kernel_rfl) rfl c w
theorem blkC (h : SiR w b r cap err mw mh rg rbd rbe) (hc : 1 ≤ rbd ∧ cap ≤ 5000) : Calls Tryz.prog 224 #[pt b] w fun e w' => e = .returned (.int .i64 (cap / rbd : Nat)) ∧ ∃ n, w' = w.drewN n := by
  have c1 : w.cell? ⟨b, 1, none⟩ = some (.int .i64 cap) := h.cell (i := 1) (by omega)
  have c6 : w.cell? ⟨b, 6, none⟩ = some (.int .i64 rbd) := h.cell (i := 6) (by omega)
  have hz : ((rbd : Int) == 0) = false := int_bf (by omega)
  have hd := Lib.hid (w64q cap rbd hc.2)
  go_enter Tryz.func224, Tryz.ntmps224
  go_wp2_with fail
  go_quiet (fail)
  go_wp2
  go_ret
  exact ⟨congrArg Ending.returned (val_int hd.out), _, rfl⟩
theorem blocksN (h : SiR w b r cap err mw mh rg rbd rbe) (hc : 1 ≤ rbd ∧ cap ≤ 5000) : Calls Tryz.prog 137 #[pt b] w fun e w' => e = .returned (.int .i64 (cap / rbd : Nat)) ∧ ∃ n, w' = w.drewN n := by
  have c8 : w.cell? ⟨b, 8, none⟩ = some (.func (Fn.func 224) #[] #[]) := h.cell (i := 8) (by omega)
  have d := blkC w b r cap err mw mh rg rbd rbe h hc
  have he := ent224
  have D := Lib.hid d; clear d
  go_enter Tryz.func137, Tryz.ntmps137
  go_wp2_with fail
  refine D.out.mono ?_
  rintro e w' ⟨rfl, n, rfl⟩
  go_wp2
  go_ret
  exact ⟨rfl, _, rfl⟩
end
end Go.Proofs.YtcnallabiffemaaGreatDoor
namespace Go.Proofs.YtcnallabiffemaaGreatDoor
open Go.RowKit (wrap32 wrap64 intOf Hid Below)
open Zx

def siRect (j : Nat) : Bool := (siAt j).1
def siCap (j : Nat) : Int := (siAt j).2.1
/-- a symbol has a shape and room -/
def siFit (n : Nat) (sh : Int) (j : Nat) : Bool := !(sh == 1 && siRect j) && !(sh == 2 && !siRect j) && decide ((n : Int) ≤ siCap j)
def LookTo (w : World) (k : Nat) (e : Ending) (w' : World) : Prop := ∃ b, e = .returned (.tuple #[pt b, .nilIface]) ∧ w'.rowIs b 212 10 (siF (siAt k)) ∧ w.heap.size ≤ b ∧ Below w.heap.size w w'

set_option maxRecDepth 100000 in
set_option maxHeartbeats 4000000 in
theorem lookC (w : World) (n : Nat) (sh : Int) (k : Nat) (hn : n ≤ 5000) (hk : k < 30) (hfit : siFit n sh k = true) (hmin : ∀ j, j < k → siFit n sh j = false) :
    Calls Tryz.prog 68 #[.int .i64 n, .int .i64 sh, .pointer none, .pointer none, .bool true] w (LookTo w k) := by
  have HF := Lib.hid hfit; clear hfit
  have HM := Lib.hid hmin; clear hmin
  go_enter Tryz.func68, Tryz.ntmps68
  go_wp2_with fail
  refine (sisC w).mono ?_
  rintro e w1 ⟨rfl, hps, hrows, hb1⟩
  have HP := Lib.hid hps; clear hps
  have HR := Lib.hid hrows; clear hrows
  have HB := Lib.hid hb1; clear hb1
  go_wp2_with fail
  go_loopw [16] (fun s16 wr => ∃ i : Nat, s16 = .int .i64 i ∧ i ≤ k ∧ wr = w1) (fun s16 _ => 30 - (intOf s16).toNat)
  case atStart => exact ⟨0, rfl, Nat.zero_le _, rfl⟩
  case round =>
    obtain ⟨i, rfl, hik, rfl⟩ := hrel
    have hi30 : i < 30 := by omega
    have cp := HP.out.cell (i := i) hi30
    have c0 : wr.cell? ⟨w.heap.size + i, 0, none⟩ = some (.bool (siRect i)) := (HR.out i hi30).cell (i := 0) (by omega)
    have c1 : wr.cell? ⟨w.heap.size + i, 1, none⟩ = some (.int .i64 (siCap i)) := (HR.out i hi30).cell (i := 1) (by omega)
    have hd : Hid (siFit n sh i = (!(sh == 1 && siRect i) && !(sh == 2 && !siRect i) && decide ((n : Int) ≤ siCap i))) := Lib.hid rfl
    have hyes : Hid (siFit n sh i = true → i = k) := Lib.hid fun h => by
      rcases Nat.lt_or_ge i k with h1 | h1
      · rw [HM.out i h1] at h; cases h
      · omega
    have hno : Hid (siFit n sh i = false → i + 1 ≤ k) := Lib.hid fun h => by
      rcases Nat.lt_or_ge i k with h1 | h1
      · exact h1
      · obtain rfl : i = k := by omega
        rw [HF.out] at h; cases h
    generalize hrect : siRect i = rc at c0 hd
    generalize hcap : siCap i = cc at c1 hd
    clear hrect hcap
    have hend : ∀ (j : Nat), j = k → LookTo w k (.returned (.tuple #[pt (w.heap.size + j), .nilIface])) wr := fun j hj => by
      subst hj
      exact ⟨_, rfl, HR.out j hk, Nat.le_add_right _ _, HB.out⟩
    have HE := Lib.hid hend; clear hend
    obtain ⟨B, hB⟩ : ∃ B, w.heap.size + i = B := ⟨_, rfl⟩
    rw [hB] at cp c0 c1
    have HBB := Lib.hid hB; clear hB
    by_cases q1 : sh = 1
    · subst q1
      cases rc with
      | true =>
        go_wp2_with fail
        go_roundw
        case rel => exact ⟨i + 1, by go_num, hno.out (by rw [hd.out]; rfl), trivial⟩
        case measure => simp [intOf]; omega
      | false =>
        by_cases q3 : (n : Int) ≤ cc
        · have hik2 := Lib.hid (hyes.out (by rw [hd.out, decide_eq_true q3]; rfl))
          go_wp2
          go_returns
          rw [← HBB.out]
          exact HE.out i hik2.out
        · have hik2 := hno.out (by rw [hd.out, decide_eq_false q3]; rfl)
          go_wp2_with fail
          go_roundw
          case rel => exact ⟨i + 1, by go_num, hik2, trivial⟩
          case measure => simp [intOf]; omega
    · have q1b := int_bf q1
      have Q1 := Lib.hid q1b
      clear q1
      by_cases q2 : sh = 2
      · subst q2
        cases rc with
        | false =>
          have hik2 := hno.out (by rw [hd.out]; rfl)
          go_wp2_with fail
          go_roundw
          case rel => exact ⟨i + 1, by go_num, hik2, trivial⟩
          case measure => simp [intOf]; omega
        | true =>
          by_cases q3 : (n : Int) ≤ cc
          · have hik2 := Lib.hid (hyes.out (by rw [hd.out, decide_eq_true q3]; rfl))
            go_wp2
            go_returns
            rw [← HBB.out]
            exact HE.out i hik2.out
          · have hik2 := hno.out (by rw [hd.out, decide_eq_false q3]; rfl)
            go_wp2_with fail
            go_roundw
            case rel => exact ⟨i + 1, by go_num, hik2, trivial⟩
            case measure => simp [intOf]; omega
      · have q2b := int_bf q2
        have Q2 := Lib.hid q2b
        clear q2
        by_cases q3 : (n : Int) ≤ cc
        · have hik2 := Lib.hid (hyes.out (by rw [hd.out, decide_eq_true q3, Q1.out, Q2.out]; rfl))
          go_wp2
          go_returns
          rw [← HBB.out]
          exact HE.out i hik2.out
        · have hik2 := hno.out (by rw [hd.out, decide_eq_false q3, Q1.out, Q2.out]; rfl)
          go_wp2_with fail
          go_roundw
          case rel => exact ⟨i + 1, by go_num, hik2, trivial⟩
          case measure => simp [intOf]; omega
end Go.Proofs.YtcnallabiffemaaGreatDoor
