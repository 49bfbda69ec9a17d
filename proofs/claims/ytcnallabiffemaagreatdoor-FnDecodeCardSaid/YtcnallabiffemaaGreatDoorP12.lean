import Derived.Great.BuildSlice
import Derived.Deep.CutRange
import Derived.Test.YtcnallabiffemaaGreatDoorM06
import Derived.Test.YtcnallabiffemaaGreatDoorM12
import Derived.Test.YtcnallabiffemaaGreatDoorM16
import Derived.Test.YtcnallabiffemaaGreatDoorP11
/- Part of the proof that a Data Matrix symbol of a text, damaged at most to half of its check codewords in each block, is decoded to the text (FnDecode): texts U7 D6 V9 W9 Y1 W2 W3 W4 W5 W6 Y3 Y4 Y5. -/
set_option linter.unusedVariables false
set_option linter.unusedSimpArgs false
namespace Go.Proofs.YtcnallabiffemaaGreatDoor
open Go.RowKit (wrap32 wrap64 intOf Hid Below)
open Zx

def DcTo (w : World) (n : Nat) (d : Nat → Nat) (text : List Nat) (e : Ending) (w' : World) : Prop :=
  ∃ v, e = .returned (.tuple #[.agg #[.string (baOf text), v], .bool true]) ∧ OwnB w' w.heap.size v ((List.range n).map d) ∧ Below w.heap.size w w'

set_option maxRecDepth 100000 in
set_option maxHeartbeats 4000000 in
theorem implDec (w : World) (m i : Nat) (r : Nat → Nat) (g : Nat → Nat → Nat) (hi29 : i < 29) (wF out : List F) (text : List Nat) (hm : Mat w m r (symAt i).rows (symAt i).cols g)
    (hlo : out.length = (symAt i).data + (symAt i).check) (hlw : wF.length = (symAt i).data + (symAt i).check) (hbits : ShowsM (symAt i) g out)
    (hcode : ∀ j, j < (symAt i).blocks → ∀ t, 1 ≤ t → t ≤ (symAt i).n → hrn (al t) (blk wF (symAt i).blocks j) = 0) (hhurt : ∀ j, j < (symAt i).blocks → 2 * (er (blk out (symAt i).blocks j) (blk wF (symAt i).blocks j)).length ≤ (symAt i).n)
    (hdec : Dec 1 0 (ds (fun o => (hi wF o).v) (symAt i).data 0) text) (h128 : ∀ c ∈ text, c < 128) (hne : text ≠ []) :
    Calls Tryz.prog 12 #[.slice (some ⟨m, 0, none⟩) (symAt i).rows (symAt i).rows] w (DcTo w (symAt i).data (fun o => (hi wF o).v) text) := by
  have hf := symFine i hi29
  have hge := hf.ge
  have hdd := fun w' c1 c2 hm h1 h2 h3 h4 => dec1C w' c1 c2 m i r g hi29 wF out text hm h1 h2 h3 h4 hlo hlw hbits hcode hhurt hdec h128 hne
  have HDD := Lib.hid hdd; clear hdd hlo hlw hbits hcode hhurt hdec h128 hne
  generalize symAt i = S at *
  have HM := Lib.hid hm; clear hm
  have hmlt := HM.out.lt
  have hmf : ∀ (fn : Fn) (first cap : Array Value) (w : World), (Instr.makeFunc fn first cap).run Tryz.prog w = .ok (.func fn first cap) w := fun _ _ _ _ => rfl
  obtain ⟨w1, hw1⟩ : ∃ w1, (w.alloc (.cells #[.slice (some ⟨m, 0, none⟩) S.rows S.rows] 37)).alloc (.cells #[.string ⟨#[]⟩, .slice none 0 0] 34) = w1 := ⟨_, rfl⟩
  have b01 : Hid (Below w.heap.size w w1) := Lib.hid (by rw [← hw1]; exact below_al (below_al (Below.refl _ _) (Nat.le_refl _) _) (Nat.le_refl _) _)
  have z01 : Hid (w1.heap.size = w.heap.size + 2) := Lib.hid (by rw [← hw1]; simp)
  have k1 : w1.cell? ⟨w.heap.size, 0, none⟩ = some (.slice (some ⟨m, 0, none⟩) S.rows S.rows) := by
    rw [← hw1, World.cell?_alloc_lt _ _ ⟨w.heap.size, 0, none⟩ (show w.heap.size < _ by simp)]
    exact World.cell?_alloc_new w _ _ 0
  have k2 := Lib.hid (World.rowIs_alloc (w.alloc (.cells #[.slice (some ⟨m, 0, none⟩) S.rows S.rows] 37)) #[.string ⟨#[]⟩, .slice none 0 0] 34 (fun j => if j = 0 then .string ⟨#[]⟩ else .slice none 0 0) (fun j hj => by
    match j, hj with
    | 0, _ => rfl
    | 1, _ => rfl
    | j + 2, h => exact absurd h (by simp)))
  rw [hw1, World.size_alloc] at k2
  have m1 := Lib.hid (HM.out.below b01.out)
  have g0 := m1.out.rs 0 (by omega)
  have HW1 := Lib.hid hw1
  go_enter Tryz.func12, Tryz.ntmps12
  have q0 := int_bf (a := (S.rows : Int)) (b := 0) (by omega)
  go_wp2_with fail
  clear q0 hw1
  go_loopw [17] (fun s17 wr => ∃ t : Nat, t ≤ S.rows ∧ s17 = .int .i64 t ∧ wr = w1) (fun s17 _ => S.rows - (intOf s17).toNat)
  case atStart => exact ⟨0, Nat.zero_le _, rfl, by first | rfl | trivial⟩
  case round =>
    obtain ⟨t, ht, rfl, hwr⟩ := hrel
    rw [hwr]; clear hwr wr
    by_cases htr : t < S.rows
    · have gt := m1.out.rs t htr
      have q1 := int_nf (a := (S.cols : Int)) (b := (S.cols : Int)) rfl
      go_wp2
      go_roundw
      case rel => exact ⟨t + 1, htr, by go_num, by first | rfl | trivial⟩
      case measure => simp [intOf]; omega
    · obtain rfl : t = S.rows := by omega
      have z1 := z01.out
      have k1a : Hid ((w1.alloc (.cells #[.bool false] 4)).cell? ⟨w.heap.size, 0, none⟩ = some (.slice (some ⟨m, 0, none⟩) S.rows S.rows)) := Lib.hid (by
        rw [World.cell?_alloc_lt _ _ ⟨w.heap.size, 0, none⟩ (show w.heap.size < _ by omega)]; exact k1)
      have hrl : ∀ y, y < S.rows → r y ≠ w.heap.size + 1 := fun y hy h => by have := (HM.out.row y hy).lt; omega
      have ca := HDD.out (w1.alloc (.cells #[.bool false] 4)) w.heap.size (w.heap.size + 1) (m1.out.below ((Below.refl _ _).alloc (Nat.le_refl _) _)) k1a.out (k2.out.alloc _) ⟨by omega, by omega, hrl⟩ (by rw [World.size_alloc]; omega)
      have tc := tryC w1 25 #[pt w.heap.size, pt (w.heap.size + 1)] (fun b w' => b = true ∧ Dec1To (w1.alloc (.cells #[.bool false] 4)) (w.heap.size + 1) S.data (fun o => (hi wF o).v) text (.returned (.bool true)) w') (fun w => ent25 _ w) (ca.mono fun e w' h => by
        obtain ⟨he, h2, h4⟩ := h
        have hs : w1.heap.size < (w1.alloc (.cells #[.bool false] 4)).heap.size := by rw [World.size_alloc]; omega
        exact ⟨true, he, ⟨rfl, rfl, h2, h4⟩, (h4.cell (p := ⟨w1.heap.size, 0, none⟩) hs (show ¬ w1.heap.size = w.heap.size + 1 by omega)).trans (World.cell?_alloc_new w1 _ _ 0),
          by
            have hb := h4.block w1.heap.size hs (show ¬ w1.heap.size = w.heap.size + 1 by omega)
            rw [World.frozen?_of_block (w := w1.alloc (.cells #[.bool false] 4)) (a := ⟨w1.heap.size, 0, none⟩) hb]
            exact World.frozen?_alloc_at _ _ _ _ rfl⟩)
      clear ca hrl k1 g0
      go_wp2_with fail
      refine tc.mono ?_
      rintro e w2 ⟨b, w3, rfl, ⟨rfl, h3⟩, hw2⟩
      clear tc
      obtain ⟨_, ⟨v, hrow, hown⟩, hbut⟩ := h3
      have row2 : w2.rowIs (w.heap.size + 1) 34 2 (fun j => if j = 0 then .string (baOf text) else v) := by rw [hw2]; exact hrow.setOther (a := ⟨w1.heap.size, 0, none⟩) (show ¬ w.heap.size + 1 = w1.heap.size by omega) _
      have hz4 : (w1.alloc (.cells #[.bool false] 4)).heap.size = w.heap.size + 3 := by rw [World.size_alloc]; omega
      have own2 : OwnB w2 w.heap.size v ((List.range S.data).map (fun o => (hi wF o).v)) := by
        rw [hw2]
        exact (hown.keep ((But.refl (· = w1.heap.size) w3).thenSet (a := ⟨w1.heap.size, 0, none⟩) (.inl rfl) _) (fun k hk h => by have := (hown.lt hk).1; omega)).base (by omega)
      have bel2 : Below w.heap.size w w2 := by
        rw [hw2]
        have hb1 : Below w.heap.size w (w1.alloc (.cells #[.bool false] 4)) := b01.out.alloc (by omega) _
        exact (hb1.trans (hbut.below (by omega) fun k hk h => by omega)).setCell (show w.heap.size ≤ w1.heap.size by omega) _
      have hvs : ∃ ad n5 k5, v = .slice ad n5 k5 := by
        rcases hown.shape with ⟨h, _⟩ | ⟨g5, k5, h, _⟩
        · exact ⟨_, _, _, h⟩
        · exact ⟨_, _, _, h⟩
      obtain ⟨ad, n5, k5, rfl⟩ := hvs
      have owne : ∀ k, (Value.slice ad n5 k5).ownBlock = some k → k ≠ w.heap.size + 1 := fun k hk h => by have := (hown.lt hk).1; omega
      clear hrow hown hbut hw2
      have f0 := row2.frozen 0
      have f1 := row2.frozen 1
      have gg0 := row2.cell (i := 0) (by decide)
      have gg1 := row2.cell (i := 1) (by decide)
      rw [if_pos rfl] at gg0
      rw [if_neg (by decide)] at gg1
      have row6 := row2.set 0 (.string (baOf text))
      have f2 := row6.frozen 1
      have gg2 := row6.cell (i := 1) (by decide)
      rw [if_neg (by decide), if_neg (by decide)] at gg2
      have row7 := row6.set 1 (.slice ad n5 k5)
      have gg3 := row7.cell (i := 0) (by decide)
      have gg4 := row7.cell (i := 1) (by decide)
      rw [if_neg (by decide), if_pos rfl] at gg3
      rw [if_pos rfl] at gg4
      have OWN2 := Lib.hid own2; clear own2
      have OWNE := Lib.hid owne; clear owne
      have BEL2 := Lib.hid bel2; clear bel2
      clear row2 row6 row7
      have bel7 : Below w.heap.size w ((w2.setCell ⟨w.heap.size + 1, 0, none⟩ (.string (baOf text))).setCell ⟨w.heap.size + 1, 1, none⟩ (.slice ad n5 k5)) := (BEL2.out.setCell (show w.heap.size ≤ w.heap.size + 1 by omega) _).setCell (show w.heap.size ≤ w.heap.size + 1 by omega) _
      have own7 : OwnB ((w2.setCell ⟨w.heap.size + 1, 0, none⟩ (.string (baOf text))).setCell ⟨w.heap.size + 1, 1, none⟩ (.slice ad n5 k5)) w.heap.size (.slice ad n5 k5) ((List.range S.data).map (fun o => (hi wF o).v)) := by
        have hn : ∀ k, (Value.slice ad n5 k5).ownBlock = some k → ¬ (k = w.heap.size + 1) := fun k hk hkc => OWNE.out k hk hkc
        exact OWN2.out.keep (((But.refl (· = w.heap.size + 1) w2).thenSet (a := ⟨w.heap.size + 1, 0, none⟩) (.inl rfl) _).thenSet (a := ⟨w.heap.size + 1, 1, none⟩) (.inl rfl) _) hn
      have BEL7 := Lib.hid bel7; clear bel7
      have OWN7 := Lib.hid own7; clear own7
      go_wp2
      exact bodyPost_ret (v := .tuple #[.agg #[.string (baOf text), .slice ad n5 k5], .bool true]) (by simp [results, Tryz.results12, go_sem, gg3, gg4]) rfl ⟨_, rfl, OWN7.out, BEL7.out⟩
end Go.Proofs.YtcnallabiffemaaGreatDoor
namespace Go.Proofs.YtcnallabiffemaaGreatDoor
open Zx

/-- codewords as elements of the field -/
def toF (l : List Nat) : List F := l.map fi
theorem toF_len (l : List Nat) : (toF l).length = l.length := by simp [toF]
theorem fi_v (x : Nat) (h : x < 256) : (fi x).v = x := Nat.mod_eq_of_lt h
theorem toF_v (l : List Nat) (h : ∀ x ∈ l, x < 256) : (toF l).map (·.v) = l := by
  unfold toF
  rw [List.map_map]
  conv => rhs; rw [← List.map_id l]
  exact List.map_congr_left fun x hx => fi_v x (h x hx)

/-- the data codewords of all codewords -/
theorem ds_words (data : List F) (B n : Nat) : ds (fun o => (hi (wordsF data B n) o).v) data.length 0 = data.map (·.v) := by
  unfold ds
  rw [List.drop_zero]
  refine List.ext_getElem? fun i => ?_
  rw [List.getElem?_map, List.getElem?_map]
  by_cases h : i < data.length
  · rw [List.getElem?_range h, List.getElem?_eq_getElem h]
    show some (hi (wordsF data B n) i).v = some (data[i]).v
    unfold wordsF
    rw [hi_append, if_pos h]
    unfold hi
    rw [List.getD_eq_getElem?_getD, List.getElem?_eq_getElem h]
    rfl
  · rw [List.getElem?_eq_none (by simpa using h), List.getElem?_eq_none (by simpa using h)]
    rfl

/-- what is decoded of pads behind a text -/
theorem read_filled (words text : List Nat) (k : Nat) (h : SegOk 0 words text) (hk : 3 ≤ k) : Dec 1 0 (fillN words k) text := by
  obtain ⟨k, rfl⟩ : ∃ m, k = m + 1 := ⟨k - 1, by omega⟩
  obtain ⟨p, h1, h2, _⟩ := fillN_split words k
  rw [h1]
  exact h.read (by omega)
theorem fillN_lt (words : List Nat) (k : Nat) (h : ∀ x ∈ words, x < 256) : ∀ x ∈ fillN words k, x < 256 := by
  induction k with
  | zero => exact h
  | succ k ih =>
    intro x hx
    rw [fillN] at hx
    rcases List.mem_append.1 hx with hx | hx
    · exact ih x hx
    · simp at hx; rw [hx]; split
      · decide
      · exact padN_lt _
end Go.Proofs.YtcnallabiffemaaGreatDoor
namespace Go.Proofs.YtcnallabiffemaaGreatDoor
open Zx

/-- a field of a size -/
def fld (s : Sym) (k : Nat) : Nat := if k = 0 then s.rows else if k = 1 then s.cols else if k = 2 then s.down else if k = 3 then s.across else if k = 4 then s.data else if k = 5 then s.check else s.blocks


end Go.Proofs.YtcnallabiffemaaGreatDoor
namespace Go.Proofs.YtcnallabiffemaaGreatDoor
open Go.RowKit (wrap32 wrap64 intOf Hid Below)
open Zx

/-- an operation whose value is reckoned by the kernel -/
theorem wpList_val {P : Program} {ops : Array Oper} {rest : List Oper} {o : Oper} {a : Act} {w w' : World} {Q : Exit → Act → World → Prop} (hg : o.guard = none) (v : Value) (hr : (execOp a.eval o).run P w = .ok (.value v) w')
    (h : wpList P ops Q rest (a.put o.dst v) w') : wpList P ops Q (o :: rest) a w :=
  wpList_plain hg fun K hK => by
    show o.upon P a K Q ((execOp a.eval o).run P w)
    rw [hr]; exact hK _ _ h
theorem run_b27 (w : World) (n0 n1 n2 n3 n4 n5 n6 : Int) : (Instr.build 27 #[(0, .int .i64 n0), (1, .int .i64 n1), (2, .int .i64 n2), (3, .int .i64 n3), (4, .int .i64 n4), (5, .int .i64 n5), (6, .int .i64 n6)]).run Tryz.prog w = .ok (.agg #[.int .i64 n0, .int .i64 n1, .int .i64 n2, .int .i64 n3, .int .i64 n4, .int .i64 n5, .int .i64 n6]) w := by kernel_rfl
theorem wpList_b27 {ops : Array Oper} {rest : List Oper} {o : Oper} {a : Act} {w : World} {Q : Exit → Act → World → Prop} (n0 n1 n2 n3 n4 n5 n6 : Int) (hg : o.guard = none)
    (ho : o.op = .build 27 #[(0, .const (.int .i64 n0)), (1, .const (.int .i64 n1)), (2, .const (.int .i64 n2)), (3, .const (.int .i64 n3)), (4, .const (.int .i64 n4)), (5, .const (.int .i64 n5)), (6, .const (.int .i64 n6))])
    (h : wpList Tryz.prog ops Q rest (a.put o.dst (.agg #[.int .i64 n0, .int .i64 n1, .int .i64 n2, .int .i64 n3, .int .i64 n4, .int .i64 n5, .int .i64 n6])) w) : wpList Tryz.prog ops Q (o :: rest) a w := by
  refine wpList_val hg _ ?_ h
  unfold execOp
  simp only [ho, Sem.run_bind]
  have := run_b27 w n0 n1 n2 n3 n4 n5 n6
  simp only [List.map_toArray, List.map_cons, List.map_nil, Act.eval] at this ⊢
  rw [this]; rfl

def symsF (c : Nat) : Nat := fld (symAt (c / 7)) (c % 7)
def SymsTo (w : World) (e : Ending) (w' : World) : Prop := e = .returned (.slice (some ⟨w.heap.size, 0, none⟩) 29 29) ∧ w'.rowIs w.heap.size 27 203 (fun c => num (symsF c)) ∧ w'.heap.size = w.heap.size + 1 ∧ Below w.heap.size w w'

theorem info27 : (Tryz.prog.info? 27).map (fun i => (i.zero, i.size)) = some (some (.agg #[.int .i64 0, .int .i64 0, .int .i64 0, .int .i64 0, .int .i64 0, .int .i64 0, .int .i64 0]), 7) := by kernel_rfl
set_option maxRecDepth 100000 in
set_option maxHeartbeats 1000000 in
theorem symsC (w : World) : Calls Tryz.prog 21 #[] w (SymsTo w) := by
  obtain ⟨ie, hi, hz⟩ := Option.map_eq_some_iff.1 info27
  simp only [Prod.mk.injEq] at hz
  have HI := Lib.hid hi; clear hi
  have HZ := Lib.hid hz; clear hz
  go_enter Tryz.func21, Tryz.ntmps21
  go_upto_region 1 with fail
  go_wp2_with (first | ((with_reducible show wpList _ _ _ (Oper.mk _ (Op.build 27 _) _ _ _ _ :: _) _ _); refine wpList_b27 _ _ _ _ _ _ _ rfl rfl ?_) | ((with_reducible show wpList _ _ _ (Oper.mk _ (Op.buildSlice 50 _ _) _ _ _ _ :: _) _ _); refine wpList_buildSlice rfl 50 27 29 _ rfl ((List.range 203).map (fun c => num (symsF c))).toArray ie _ Tryz.underlying50 HI.out HZ.out.1 (by rw [HZ.out.2]; decide) (by rw [HZ.out.2]; decide) (by rw [HZ.out.2]; kernel_rfl) ?_))
  go_ret
  exact ⟨rfl, row_litT _ _ _ _ _ rfl, by rw [World.size_alloc], (Below.refl _ _).alloc (Nat.le_refl _) _⟩
end Go.Proofs.YtcnallabiffemaaGreatDoor
namespace Go.Proofs.YtcnallabiffemaaGreatDoor
open Go.RowKit (wrap32 wrap64 intOf Hid Below)
open Zx

theorem symsF_at (J k : Nat) (hk : k < 7) : symsF (J * 7 + k) = fld (symAt J) k := by
  unfold symsF; rw [show (J * 7 + k) / 7 = J by omega, show (J * 7 + k) % 7 = k by omega]
theorem tmod29 (n : Int) : ∃ m : Int, Int.tmod n 29 = m ∧ -29 < m ∧ m < 29 :=
  ⟨_, rfl, by have := Int.lt_tmod_of_pos n (show (0 : Int) < 29 by decide); omega, Int.tmod_lt_of_pos n (by decide)⟩

theorem below_setRow {w w' : World} {B g : Nat} (h : Below B w w') (hg : B ≤ g) (cs : Array Value) : Below B w (w'.setRow g cs) :=
  ⟨by rw [setRow_os]; exact h.os, by rw [setRow_tape]; exact h.tape, by rw [setRow_output]; exact h.output, by rw [setRow_size]; exact h.size, fun k hk => by rw [setRow_other _ _ _ _ (by omega)]; exact h.block k hk⟩
theorem sz27 : (Tryz.prog.info? 27).map (·.size) = some 7 := by kernel_rfl
def SymTo (w : World) (room : Nat) (e : Ending) (w' : World) : Prop :=
  ((∃ i, i < 29 ∧ room + 3 ≤ (symAt i).data ∧ e = .returned (.tuple #[sv (symAt i), .bool true])) ∨ e = .returned (.tuple #[.agg #[.int .i64 0, .int .i64 0, .int .i64 0, .int .i64 0, .int .i64 0, .int .i64 0, .int .i64 0], .bool false])) ∧ Below w.heap.size w w'

set_option maxRecDepth 100000 in
set_option maxHeartbeats 2000000 in
theorem symbolC (w : World) (n : Int) (room : Nat) (hn : -9223372036854775808 ≤ n ∧ n < 9223372036854775808) (hr : room ≤ 100000) : Calls Tryz.prog 8 #[.int .i64 n, .int .i64 room] w (SymTo w room) := by
  obtain ⟨m, hm, hm1, hm2⟩ := tmod29 n
  obtain ⟨q, hq⟩ : ∃ q : Nat, m + 29 = (q : Int) := ⟨(m + 29).toNat, by omega⟩
  obtain ⟨r, hr29⟩ : ∃ r : Nat, q % 29 = r := ⟨_, rfl⟩
  have hrl : r < 29 := by omega
  have g1 : (q : Int) % 29 = (r : Int) := by omega
  have z0 : Hid (∀ o, (w.alloc o).heap.size = w.heap.size + 1) := Lib.hid fun o => World.size_alloc _ _
  go_enter Tryz.func8, Tryz.ntmps8
  go_wp2_with fail
  refine (symsC _).mono ?_
  rintro e w1 ⟨rfl, hrow, hsz, hbel⟩
  rw [z0.out] at hrow hsz hbel
  rw [z0.out]
  have ROW := Lib.hid hrow; clear hrow
  have SZ := Lib.hid hsz; clear hsz
  have zrow := Lib.hid (World.rowIs_alloc w #[.int .i64 0, .int .i64 0, .int .i64 0, .int .i64 0, .int .i64 0, .int .i64 0, .int .i64 0] 27 (fun _ => .int .i64 0) (fun j hj => by
    match j, hj with
    | 0, _ => rfl | 1, _ => rfl | 2, _ => rfl | 3, _ => rfl | 4, _ => rfl | 5, _ => rfl | 6, _ => rfl
    | j + 7, h => exact absurd h (by simp)))
  have z1 := Lib.hid (rowIs_below zrow.out hbel (Nat.lt_succ_self _)); clear zrow
  have b0 : Hid (Below w.heap.size w w1) := Lib.hid (((Below.refl w.heap.size w).alloc (Nat.le_refl _) _).trans (hbel.mono (Nat.le_succ _))); clear hbel
  go_wp2_with fail
  rw [g1]
  clear g1 hm hq
  go_loopw [22] (fun s22 wr => ∃ i : Nat, i ≤ 29 ∧ s22 = .int .i64 i ∧ wr.rowIs (w.heap.size + 1) 27 203 (fun c => num (symsF c)) ∧ wr.rowIs w.heap.size 27 7 (fun _ => .int .i64 0) ∧ Below w.heap.size w wr ∧ w.heap.size + 2 ≤ wr.heap.size) (fun s22 _ => 29 - (intOf s22).toNat)
  case atStart => exact ⟨0, by decide, rfl, ROW.out, z1.out, b0.out, by rw [SZ.out]; omega⟩
  case round =>
    clear ROW z1 b0 SZ
    obtain ⟨i, hi, rfl, hrow, hz, hb, hsz⟩ := hrel
    obtain ⟨w2, rfl⟩ : ∃ w2 : World, w2 = wr := ⟨_, rfl⟩
    have BEL := Lib.hid hb; clear hb
    by_cases hi29 : i < 29
    · obtain ⟨J, hJ⟩ : ∃ J, (r + i) % 29 = J := ⟨_, rfl⟩
      have hJ29 : J < 29 := by omega
      have g2 : ((r : Int) + (i : Int)) % 29 = (J : Int) := by omega
      have k0 : w2.cell? ⟨w.heap.size + 1, J * 7, none⟩ = some (num (symAt J).rows) := by have := hrow.cell (i := J * 7 + 0) (by omega); rwa [symsF_at J 0 (by decide)] at this
      have k1 : w2.cell? ⟨w.heap.size + 1, J * 7 + 1, none⟩ = some (num (symAt J).cols) := by have := hrow.cell (i := J * 7 + 1) (by omega); rwa [symsF_at J 1 (by decide)] at this
      have k2 : w2.cell? ⟨w.heap.size + 1, J * 7 + 2, none⟩ = some (num (symAt J).down) := by have := hrow.cell (i := J * 7 + 2) (by omega); rwa [symsF_at J 2 (by decide)] at this
      have k3 : w2.cell? ⟨w.heap.size + 1, J * 7 + 3, none⟩ = some (num (symAt J).across) := by have := hrow.cell (i := J * 7 + 3) (by omega); rwa [symsF_at J 3 (by decide)] at this
      have k4 : w2.cell? ⟨w.heap.size + 1, J * 7 + 4, none⟩ = some (num (symAt J).data) := by have := hrow.cell (i := J * 7 + 4) (by omega); rwa [symsF_at J 4 (by decide)] at this
      have k5 : w2.cell? ⟨w.heap.size + 1, J * 7 + 5, none⟩ = some (num (symAt J).check) := by have := hrow.cell (i := J * 7 + 5) (by omega); rwa [symsF_at J 5 (by decide)] at this
      have k6 : w2.cell? ⟨w.heap.size + 1, J * 7 + 6, none⟩ = some (num (symAt J).blocks) := by have := hrow.cell (i := J * 7 + 6) (by omega); rwa [symsF_at J 6 (by decide)] at this
      have ROW := Lib.hid hrow; clear hrow
      have ZR := Lib.hid hz; clear hz
      have HJ := Lib.hid hJ; clear hJ
      generalize hS : symAt J = S at k0 k1 k2 k3 k4 k5 k6
      have HS := Lib.hid hS; clear hS
      have r0 : (w2.alloc (.cells #[num S.rows, num S.cols, num S.down, num S.across, num S.data, num S.check, num S.blocks] 27)).rowIs w.heap.size 27 7 (fun _ => .int .i64 0) := rowIs_below ZR.out ((Below.refl w2.heap.size w2).alloc (Nat.le_refl _) _) (by omega)
      have b3 := Lib.hid (BEL.out.alloc BEL.out.size (.cells #[num S.rows, num S.cols, num S.down, num S.across, num S.data, num S.check, num S.blocks] 27))
      by_cases hfit : room + 3 ≤ S.data
      · obtain ⟨c0, hc1, hc2, _⟩ := r0
        have HC1 := Lib.hid hc1; clear hc1
        have HC2 := Lib.hid hc2; clear hc2
        go_wp2_with ((with_reducible show wpList _ _ _ (Oper.mk none (Op.store 27 (Operand.tmp 4) _) _ _ _ _ :: _) _ _); refine wpList_store_row rfl 27 (.tmp 4) (.tmp 39) rfl w.heap.size #[num S.rows, num S.cols, num S.down, num S.across, num S.data, num S.check, num S.blocks] rfl rfl 27 c0 HC1.out sz27 HC2.out (by simp [Value.oneCell']) ?_)
        have cr := fun j => cell_setRow_same _ w.heap.size j c0 #[num S.rows, num S.cols, num S.down, num S.across, num S.data, num S.check, num S.blocks] 27 (0, 0) HC1.out
        have cr0 := cr 0
        have cr1 := cr 1
        have cr2 := cr 2
        have cr3 := cr 3
        have cr4 := cr 4
        have cr5 := cr 5
        have cr6 := cr 6
        simp only [List.getElem?_toArray, List.getElem?_cons_zero, List.getElem?_cons_succ] at cr0 cr1 cr2 cr3 cr4 cr5 cr6
        clear cr
        refine bodyPost_ret (v := .tuple #[sv S, .bool true]) (by simp [results, Tryz.results8, go_sem, cr0, cr1, cr2, cr3, cr4, cr5, cr6, sv]) rfl ⟨.inl ⟨J, hJ29, by rw [HS.out]; exact hfit, by rw [HS.out]⟩, ?_⟩
        exact below_setRow b3.out (Nat.le_refl _) _
      · clear r0
        go_wp2
        go_roundw
        case rel => exact ⟨i + 1, by omega, by go_num, rowIs_below ROW.out ((Below.refl w2.heap.size w2).alloc (Nat.le_refl _) _) (by omega), rowIs_below ZR.out ((Below.refl w2.heap.size w2).alloc (Nat.le_refl _) _) (by omega), b3.out, by rw [World.size_alloc]; omega⟩
        case measure => simp [intOf]; omega
    · obtain rfl : i = 29 := by omega
      obtain ⟨c0, hc1, hc2, _⟩ := hz
      have HC1 := Lib.hid hc1; clear hc1
      have HC2 := Lib.hid hc2; clear hc2
      clear hrow
      go_wp2_with ((with_reducible show wpList _ _ _ (Oper.mk none (Op.store 27 (Operand.tmp 4) _) _ _ _ _ :: _) _ _); refine wpList_store_row rfl 27 (.tmp 4) (.tmp 41) rfl w.heap.size #[.int .i64 0, .int .i64 0, .int .i64 0, .int .i64 0, .int .i64 0, .int .i64 0, .int .i64 0] rfl rfl 27 c0 HC1.out sz27 HC2.out (by simp [Value.oneCell']) ?_)
      have cr := fun j => cell_setRow_same _ w.heap.size j c0 #[.int .i64 0, .int .i64 0, .int .i64 0, .int .i64 0, .int .i64 0, .int .i64 0, .int .i64 0] 27 (0, 0) HC1.out
      have cr0 := cr 0
      have cr1 := cr 1
      have cr2 := cr 2
      have cr3 := cr 3
      have cr4 := cr 4
      have cr5 := cr 5
      have cr6 := cr 6
      simp only [List.getElem?_toArray, List.getElem?_cons_zero, List.getElem?_cons_succ] at cr0 cr1 cr2 cr3 cr4 cr5 cr6
      clear cr
      refine bodyPost_ret (v := .tuple #[.agg #[.int .i64 0, .int .i64 0, .int .i64 0, .int .i64 0, .int .i64 0, .int .i64 0, .int .i64 0], .bool false]) (by simp [results, Tryz.results8, go_sem, cr0, cr1, cr2, cr3, cr4, cr5, cr6]) rfl ⟨.inr rfl, ?_⟩
      exact below_setRow BEL.out (Nat.le_refl _) _
end Go.Proofs.YtcnallabiffemaaGreatDoor
namespace Go.Proofs.YtcnallabiffemaaGreatDoor
open Go.RowKit (wrap32 wrap64 intOf Hid Below)
open Zx

/-- the reference's placement: rows R, columns C, the numbers laid g -/
structure Plc (w : World) (p b R C : Nat) (g : Nat → Int) : Prop where
  c0 : w.cell? ⟨p, 0, none⟩ = some (.int .i64 R)
  c1 : w.cell? ⟨p, 1, none⟩ = some (.int .i64 C)
  c2 : w.cell? ⟨p, 2, none⟩ = some (.slice (some ⟨b, 0, none⟩) (R * C) (R * C))
  row : w.rowIs b 3 (R * C) (fun i => .int .i64 (g i))
  lt : p < w.heap.size
  ne : p ≠ b
  bd : 1 ≤ R ∧ R ≤ 200 ∧ 1 ≤ C ∧ C ≤ 200

theorem freeC (w : World) (p b R C x y : Nat) (g : Nat → Int) (h : Plc w p b R C g) (hx : x < C) (hy : y < R) :
    Calls Tryz.prog 64 #[pt p, .int .i64 y, .int .i64 x] w fun e w' => e = .returned (.bool (decide (g (y * C + x) < 0))) ∧ ∃ m, w' = w.drewN m := by
  have c1 := h.c1
  have c2 := h.c2
  have hbd := h.bd
  have hlt : y * C + x < R * C := by
    have := Nat.mul_le_mul_right C (show y + 1 ≤ R from hy)
    rw [Nat.add_mul, Nat.one_mul] at this
    omega
  have gc := h.row.cell hlt
  have hRC : R * C ≤ 200 * 200 := Nat.mul_le_mul hbd.2.1 hbd.2.2.2
  obtain ⟨P, hP⟩ : ∃ P, y * C = P := ⟨_, rfl⟩
  have m1 : (y : Int) * (C : Int) = (P : Int) := by rw [← hP]; simp
  obtain ⟨N, hN⟩ : ∃ N, R * C = N := ⟨_, rfl⟩
  rw [hN] at hlt c2 hRC
  rw [hP] at hlt gc ⊢
  clear hP hN h
  go_enter Tryz.func64, Tryz.ntmps64
  go_wp2_with fail
  go_quiet (fail)
  go_wp2
  go_ret
  exact ⟨rfl, _, rfl⟩
theorem Plc.lay {w : World} {p b R C : Nat} {g : Nat → Int} (h : Plc w p b R C g) (x y : Nat) (v : Int) (m : Nat) :
    Plc ((w.drewN m).setCell ⟨b, y * C + x, none⟩ (.int .i64 v)) p b R C (put1 C g ((y : Int), (x : Int)) v) ∧ But (· = b) w ((w.drewN m).setCell ⟨b, y * C + x, none⟩ (.int .i64 v)) := by
  have hb : But (· = b) w ((w.drewN m).setCell ⟨b, y * C + x, none⟩ (.int .i64 v)) := ((But.refl (· = b) w).thenDn m).thenSet (a := ⟨b, y * C + x, none⟩) (.inl rfl) _
  have r0 : (w.drewN m).rowIs b 3 (R * C) (fun i => .int .i64 (g i)) := h.row
  refine ⟨⟨(hb.cell (p := ⟨p, 0, none⟩) h.lt h.ne).trans h.c0, (hb.cell (p := ⟨p, 1, none⟩) h.lt h.ne).trans h.c1, (hb.cell (p := ⟨p, 2, none⟩) h.lt h.ne).trans h.c2, (r0.set (y * C + x) _).congr fun i _ => ?_, Nat.lt_of_lt_of_le h.lt hb.size, h.ne, h.bd⟩, hb⟩
  unfold put1
  rw [ix_nat (Int.natCast_nonneg _) (Int.natCast_nonneg _)]
  show (if i = y * C + x then Value.int .i64 v else .int .i64 (g i)) = .int .i64 (if i = y * C + x then v else g i)
  split <;> rfl
end Go.Proofs.YtcnallabiffemaaGreatDoor
namespace Go.Proofs.YtcnallabiffemaaGreatDoor
open Go.RowKit (wrap32 wrap64 intOf Hid Below)
open Zx

def PutTo (w : World) (p b R C : Nat) (g : Nat → Int) (x y : Nat) (v : Int) (e : Ending) (w' : World) : Prop := e = .returned (.tuple #[]) ∧ Plc w' p b R C (put1 C g ((y : Int), (x : Int)) v) ∧ But (· = b) w w'

set_option maxRecDepth 100000 in
theorem putN (w : World) (p b R C x y word bit : Nat) (g : Nat → Int) (h : Plc w p b R C g) (hx : x < C) (hy : y < R) (hw : word ≤ 5000) (hb : bit ≤ 7) :
    Calls Tryz.prog 106 #[pt p, .int .i64 y, .int .i64 x, .int .i64 word, .int .i64 bit] w (PutTo w p b R C g x y (8 * word + bit)) := by
  have c0 := h.c0
  have c1 := h.c1
  have c2 := h.c2
  have hbd := h.bd
  have hlt : y * C + x < R * C := by
    have := Nat.mul_le_mul_right C (show y + 1 ≤ R from hy)
    rw [Nat.add_mul, Nat.one_mul] at this
    omega
  have gc := h.row.cell hlt
  have gf := h.row.frozen (y * C + x)
  have st := fun m => h.lay x y (8 * (word : Int) + (bit : Int)) m
  have ST := Lib.hid st; clear st
  have hRC : R * C ≤ 200 * 200 := Nat.mul_le_mul hbd.2.1 hbd.2.2.2
  obtain ⟨P, hP⟩ : ∃ P, y * C = P := ⟨_, rfl⟩
  have m1 : (y : Int) * (C : Int) = (P : Int) := by rw [← hP]; simp
  obtain ⟨N, hN⟩ : ∃ N, R * C = N := ⟨_, rfl⟩
  rw [hN] at hlt c2 hRC
  rw [hP] at hlt gc gf ST
  clear hP hN h
  go_enter Tryz.func106, Tryz.ntmps106
  go_wp2_with fail
  refine wp_region_quiet_tail 17 (by kernel_rfl) (by kernel_rfl) ?_
  simp only [List.take_succ_cons, List.take_zero, List.drop_succ_cons, List.drop_zero]
  repeat (first | go_big_quiet_step (fail) | quiet_step (fail))
  refine wpQuiet_nil ?_
  intro _ hw1q
  obtain ⟨nq, hw2q⟩ := hw1q
  subst hw2q
  go_wp2
  refine bodyPost_end (results_none rfl _ _ _) rfl ?_
  exact ⟨rfl, (ST.out _).1, (ST.out _).2⟩
end Go.Proofs.YtcnallabiffemaaGreatDoor
namespace Go.Proofs.YtcnallabiffemaaGreatDoor
open Go.RowKit (wrap32 wrap64 intOf Hid Below)
open Zx

set_option maxRecDepth 100000 in
theorem putA (w : World) (p b R C x y word bit : Nat) (g : Nat → Int) (h : Plc w p b R C g) (hx : x < C) (hy : y < R) (row col : Int) (hr : row < 0) (e1 : row + (R : Int) = (y : Int)) (e2 : col + (4 - ((R : Int) + 4) % 8) = (x : Int)) (hrb : -200 ≤ row ∧ row ≤ 400 ∧ -200 ≤ col ∧ col ≤ 400) (hw : word ≤ 5000) (hb : bit ≤ 7) :
    Calls Tryz.prog 106 #[pt p, .int .i64 row, .int .i64 col, .int .i64 word, .int .i64 bit] w (PutTo w p b R C g x y (8 * word + bit)) := by
  have c0 := h.c0
  have c1 := h.c1
  have c2 := h.c2
  have hbd := h.bd
  have hlt : y * C + x < R * C := by
    have := Nat.mul_le_mul_right C (show y + 1 ≤ R from hy)
    rw [Nat.add_mul, Nat.one_mul] at this
    omega
  have gc := h.row.cell hlt
  have gf := h.row.frozen (y * C + x)
  have st := fun m => h.lay x y (8 * (word : Int) + (bit : Int)) m
  have ST := Lib.hid st; clear st
  have hRC : R * C ≤ 200 * 200 := Nat.mul_le_mul hbd.2.1 hbd.2.2.2
  obtain ⟨P, hP⟩ : ∃ P, y * C = P := ⟨_, rfl⟩
  have m1 : (y : Int) * (C : Int) = (P : Int) := by rw [← hP]; simp
  obtain ⟨N, hN⟩ : ∃ N, R * C = N := ⟨_, rfl⟩
  rw [hN] at hlt c2 hRC
  rw [hP] at hlt gc gf ST
  clear hP hN h
  go_enter Tryz.func106, Tryz.ntmps106
  go_wp2_with fail
  refine wp_region_quiet_tail 17 (by kernel_rfl) (by kernel_rfl) ?_
  simp only [List.take_succ_cons, List.take_zero, List.drop_succ_cons, List.drop_zero]
  repeat (first | go_big_quiet_step (fail) | quiet_step (fail))
  refine wpQuiet_nil ?_
  intro _ hw1q
  obtain ⟨nq, hw2q⟩ := hw1q
  subst hw2q
  go_wp2
  refine bodyPost_end (results_none rfl _ _ _) rfl ?_
  exact ⟨rfl, (ST.out _).1, (ST.out _).2⟩
set_option maxRecDepth 100000 in
theorem putB' (w : World) (p b R C x y word bit : Nat) (g : Nat → Int) (h : Plc w p b R C g) (hx : x < C) (hy : y < R) (row col : Int) (hr : 0 ≤ row) (hc : col < 0) (e1 : col + (C : Int) = (x : Int)) (e2 : row + (4 - ((C : Int) + 4) % 8) = (y : Int)) (hrb : -200 ≤ row ∧ row ≤ 400 ∧ -200 ≤ col ∧ col ≤ 400) (hw : word ≤ 5000) (hb : bit ≤ 7) :
    Calls Tryz.prog 106 #[pt p, .int .i64 row, .int .i64 col, .int .i64 word, .int .i64 bit] w (PutTo w p b R C g x y (8 * word + bit)) := by
  have c0 := h.c0
  have c1 := h.c1
  have c2 := h.c2
  have hbd := h.bd
  have hlt : y * C + x < R * C := by
    have := Nat.mul_le_mul_right C (show y + 1 ≤ R from hy)
    rw [Nat.add_mul, Nat.one_mul] at this
    omega
  have gc := h.row.cell hlt
  have gf := h.row.frozen (y * C + x)
  have st := fun m => h.lay x y (8 * (word : Int) + (bit : Int)) m
  have ST := Lib.hid st; clear st
  have hRC : R * C ≤ 200 * 200 := Nat.mul_le_mul hbd.2.1 hbd.2.2.2
  obtain ⟨P, hP⟩ : ∃ P, y * C = P := ⟨_, rfl⟩
  have m1 : (y : Int) * (C : Int) = (P : Int) := by rw [← hP]; simp
  obtain ⟨N, hN⟩ : ∃ N, R * C = N := ⟨_, rfl⟩
  rw [hN] at hlt c2 hRC
  rw [hP] at hlt gc gf ST
  clear hP hN h
  go_enter Tryz.func106, Tryz.ntmps106
  go_wp2_with fail
  refine wp_region_quiet_tail 17 (by kernel_rfl) (by kernel_rfl) ?_
  simp only [List.take_succ_cons, List.take_zero, List.drop_succ_cons, List.drop_zero]
  repeat (first | go_big_quiet_step (fail) | quiet_step (fail))
  refine wpQuiet_nil ?_
  intro _ hw1q
  obtain ⟨nq, hw2q⟩ := hw1q
  subst hw2q
  go_wp2
  refine bodyPost_end (results_none rfl _ _ _) rfl ?_
  exact ⟨rfl, (ST.out _).1, (ST.out _).2⟩
set_option maxRecDepth 100000 in
theorem putC' (w : World) (p b R C x y word bit : Nat) (g : Nat → Int) (h : Plc w p b R C g) (hx : x < C) (hy : y < R) (row col : Int) (hr : row < 0) (hc : col + (4 - ((R : Int) + 4) % 8) < 0) (e1 : col + (4 - ((R : Int) + 4) % 8) + (C : Int) = (x : Int)) (e2 : row + (R : Int) + (4 - ((C : Int) + 4) % 8) = (y : Int)) (hrb : -200 ≤ row ∧ row ≤ 400 ∧ -200 ≤ col ∧ col ≤ 400) (hw : word ≤ 5000) (hb : bit ≤ 7) :
    Calls Tryz.prog 106 #[pt p, .int .i64 row, .int .i64 col, .int .i64 word, .int .i64 bit] w (PutTo w p b R C g x y (8 * word + bit)) := by
  have c0 := h.c0
  have c1 := h.c1
  have c2 := h.c2
  have hbd := h.bd
  have hlt : y * C + x < R * C := by
    have := Nat.mul_le_mul_right C (show y + 1 ≤ R from hy)
    rw [Nat.add_mul, Nat.one_mul] at this
    omega
  have gc := h.row.cell hlt
  have gf := h.row.frozen (y * C + x)
  have st := fun m => h.lay x y (8 * (word : Int) + (bit : Int)) m
  have ST := Lib.hid st; clear st
  have hRC : R * C ≤ 200 * 200 := Nat.mul_le_mul hbd.2.1 hbd.2.2.2
  obtain ⟨P, hP⟩ : ∃ P, y * C = P := ⟨_, rfl⟩
  have m1 : (y : Int) * (C : Int) = (P : Int) := by rw [← hP]; simp
  obtain ⟨N, hN⟩ : ∃ N, R * C = N := ⟨_, rfl⟩
  rw [hN] at hlt c2 hRC
  rw [hP] at hlt gc gf ST
  clear hP hN h
  go_enter Tryz.func106, Tryz.ntmps106
  go_wp2_with fail
  refine wp_region_quiet_tail 17 (by kernel_rfl) (by kernel_rfl) ?_
  simp only [List.take_succ_cons, List.take_zero, List.drop_succ_cons, List.drop_zero]
  repeat (first | go_big_quiet_step (fail) | quiet_step (fail))
  refine wpQuiet_nil ?_
  intro _ hw1q
  obtain ⟨nq, hw2q⟩ := hw1q
  subst hw2q
  go_wp2
  refine bodyPost_end (results_none rfl _ _ _) rfl ?_
  exact ⟨rfl, (ST.out _).1, (ST.out _).2⟩
end Go.Proofs.YtcnallabiffemaaGreatDoor
namespace Go.Proofs.YtcnallabiffemaaGreatDoor
open Go.RowKit (wrap32 wrap64 intOf Hid Below)
open Zx

def PutAt (w : World) (p b R C : Nat) (g : Nat → Int) (pl : Pl) (v : Int) (e : Ending) (w' : World) : Prop := e = .returned (.tuple #[]) ∧ Plc w' p b R C (put1 C g pl v) ∧ But (· = b) w w'

theorem putC (w : World) (p b R C word bit : Nat) (row col : Int) (g : Nat → Int) (h : Plc w p b R C g) (hin : inR R C (adj R C (row, col)) = true) (hrb : -200 ≤ row ∧ row ≤ 400 ∧ -200 ≤ col ∧ col ≤ 400) (hw : word ≤ 5000) (hb : bit ≤ 7) :
    Calls Tryz.prog 106 #[pt p, .int .i64 row, .int .i64 col, .int .i64 word, .int .i64 bit] w (PutAt w p b R C g (adj R C (row, col)) (8 * word + bit)) := by
  obtain ⟨A, hA⟩ : ∃ A, adj R C (row, col) = A := ⟨_, rfl⟩
  rw [hA] at hin ⊢
  have hi := of_decide_eq_true hin
  have key : ∀ (x y : Nat), A = ((y : Int), (x : Int)) → Calls Tryz.prog 106 #[pt p, .int .i64 row, .int .i64 col, .int .i64 word, .int .i64 bit] w (PutTo w p b R C g x y (8 * word + bit)) →
      Calls Tryz.prog 106 #[pt p, .int .i64 row, .int .i64 col, .int .i64 word, .int .i64 bit] w (PutAt w p b R C g A (8 * word + bit)) := by
    intro x y hxy hc
    rw [hxy]; exact hc
  have hx : A.2 = ((A.2.toNat : Nat) : Int) := by omega
  have hy : A.1 = ((A.1.toNat : Nat) : Int) := by omega
  refine key A.2.toNat A.1.toNat (Prod.ext hy hx) ?_
  unfold adj at hA
  by_cases h1 : row < 0
  · simp only [h1, if_true] at hA
    by_cases h2 : col + (4 - ((R : Int) + 4) % 8) < 0
    · simp only [h2, if_true] at hA
      subst hA
      exact putC' w p b R C _ _ word bit g h (by omega) (by omega) row col h1 h2 hx hy hrb hw hb
    · simp only [h2, if_false] at hA
      subst hA
      exact putA w p b R C _ _ word bit g h (by omega) (by omega) row col h1 hy hx hrb hw hb
  · simp only [h1, if_false] at hA
    by_cases h2 : col < 0
    · simp only [h2, if_true] at hA
      subst hA
      exact putB' w p b R C _ _ word bit g h (by omega) (by omega) row col (by omega) h2 hx hy hrb hw hb
    · simp only [h2, if_false] at hA
      subst hA
      have e1 : row = ((row.toNat : Nat) : Int) := hy
      have e2 : col = ((col.toNat : Nat) : Int) := hx
      have := putN w p b R C col.toNat row.toNat word bit g h (by omega) (by omega) hw hb
      rw [← e1, ← e2] at this
      exact this
end Go.Proofs.YtcnallabiffemaaGreatDoor
namespace Go.Proofs.YtcnallabiffemaaGreatDoor
open Go.RowKit (wrap32 wrap64 intOf Hid Below)
open Zx

theorem putB_take (C : Int) (s : List Pl) : ∀ (g : Nat → Int) (v : Int) (j : Nat) (pl : Pl), s[j]? = some pl → putB C g (s.take (j + 1)) v = put1 C (putB C g (s.take j) v) pl (v + j) := by
  induction s with
  | nil => intro g v j pl h; simp at h
  | cons a s ih =>
    intro g v j pl h
    cases j with
    | zero =>
      simp only [List.getElem?_cons_zero, Option.some.injEq] at h
      subst h
      show putB C (put1 C g a v) (s.take 0) (v + 1) = _
      simp [putB]
    | succ j =>
      simp only [List.getElem?_cons_succ] at h
      show putB C (put1 C g a v) (s.take (j + 1)) (v + 1) = put1 C (putB C (put1 C g a v) (s.take j) (v + 1)) pl (v + ((j + 1 : Nat) : Int))
      rw [ih _ _ _ _ h]
      congr 1
      omega
theorem Plc.all {w w' : World} {p b R C : Nat} {g : Nat → Int} (h : Plc w p b R C g) (hb : Below w.heap.size w w') : Plc w' p b R C g :=
  ⟨(hb.cell (p := ⟨p, 0, none⟩) h.lt).trans h.c0, (hb.cell (p := ⟨p, 1, none⟩) h.lt).trans h.c1, (hb.cell (p := ⟨p, 2, none⟩) h.lt).trans h.c2, rowIs_below h.row hb h.row.lt, Nat.lt_of_lt_of_le h.lt hb.size, h.ne, h.bd⟩

def ShTo (w : World) (p b R C : Nat) (g : Nat → Int) (e : Ending) (w' : World) : Prop := e = .returned (.tuple #[]) ∧ Plc w' p b R C g ∧ But (· = b) w w'

/-- the places of a utah before they are brought in -/
def utd (j : Nat) : Int × Int := [((-2 : Int), (-2 : Int)), (-2, -1), (-1, -2), (-1, -1), (-1, 0), (0, -2), (0, -1), (0, 0)].getD j (0, 0)
theorem utah_at (R C row col : Int) (j : Nat) (h : j < 8) : (utahS R C row col)[j]? = some (adj R C (row + (utd j).1, col + (utd j).2)) := by
  have h8 : j = 0 ∨ j = 1 ∨ j = 2 ∨ j = 3 ∨ j = 4 ∨ j = 5 ∨ j = 6 ∨ j = 7 := by omega
  rcases h8 with rfl | rfl | rfl | rfl | rfl | rfl | rfl | rfl <;> simp [utahS, utd] <;> rfl
end Go.Proofs.YtcnallabiffemaaGreatDoor
namespace Go.Proofs.YtcnallabiffemaaGreatDoor
open Go.RowKit (wrap32 wrap64 intOf Hid Below)
open Zx

/-- an array of eight pairs, as a value -/
def at16 (c : Nat → Int × Int) : Value := .agg #[.int .i64 (c 0).1, .int .i64 (c 0).2, .int .i64 (c 1).1, .int .i64 (c 1).2, .int .i64 (c 2).1, .int .i64 (c 2).2, .int .i64 (c 3).1, .int .i64 (c 3).2, .int .i64 (c 4).1, .int .i64 (c 4).2, .int .i64 (c 5).1, .int .i64 (c 5).2, .int .i64 (c 6).1, .int .i64 (c 6).2, .int .i64 (c 7).1, .int .i64 (c 7).2]
theorem at16_ix (c : Nat → Int × Int) (w : World) : ∀ j : Nat, j < 8 → (Instr.index 180 (at16 c) (.int .i64 (j : Int))).run Tryz.prog w = .ok (.agg #[.int .i64 (c j).1, .int .i64 (c j).2]) w
  | 0, _ => by kernel_rfl
  | 1, _ => by kernel_rfl
  | 2, _ => by kernel_rfl
  | 3, _ => by kernel_rfl
  | 4, _ => by kernel_rfl
  | 5, _ => by kernel_rfl
  | 6, _ => by kernel_rfl
  | 7, _ => by kernel_rfl
  | j + 8, h => absurd h (by omega)

set_option maxRecDepth 100000 in
set_option maxHeartbeats 2000000 in
theorem utahC (w : World) (p b R C word : Nat) (row col : Int) (g : Nat → Int) (h : Plc w p b R C g) (hin : ∀ (j : Nat) (pl : Pl), (utahS R C row col)[j]? = some pl → inR R C pl = true) (hrb : -190 ≤ row ∧ row ≤ 390 ∧ -190 ≤ col ∧ col ≤ 390) (hw : word ≤ 5000) :
    Calls Tryz.prog 65 #[pt p, .int .i64 row, .int .i64 col, .int .i64 word] w (ShTo w p b R C (putB C g (utahS R C row col) (8 * word))) := by
  have HIN := Lib.hid hin; clear hin
  have H0 := Lib.hid h; clear h
  go_enter Tryz.func65, Tryz.ntmps65
  go_wp2_with fail
  go_loopw [19] (fun s19 wr => ∃ j : Nat, j ≤ 8 ∧ s19 = .int .i64 j ∧ Plc wr p b R C (putB C g ((utahS R C row col).take j) (8 * word)) ∧ But (· = b) w wr) (fun s19 _ => 8 - (intOf s19).toNat)
  case atStart => exact ⟨0, by decide, rfl, by rw [List.take_zero]; exact H0.out, But.refl _ _⟩
  case round =>
    obtain ⟨j, hj, rfl, hp, hbut⟩ := hrel
    obtain ⟨w1, rfl⟩ : ∃ w1 : World, w1 = wr := ⟨_, rfl⟩
    have HP := Lib.hid hp; clear hp
    have BU := Lib.hid hbut; clear hbut
    by_cases hj8 : j < 8
    · have ha := utah_at R C row col j hj8
      have hi := HIN.out j _ ha
      have hb1 : Hid (∀ o, Below w1.heap.size w1 (w1.alloc o)) := Lib.hid fun o => (Below.refl _ _).alloc (Nat.le_refl _) o
      have hd : -2 ≤ (utd j).1 ∧ (utd j).1 ≤ 0 ∧ -2 ≤ (utd j).2 ∧ (utd j).2 ≤ 0 := by
        have h8 : j = 0 ∨ j = 1 ∨ j = 2 ∨ j = 3 ∨ j = 4 ∨ j = 5 ∨ j = 6 ∨ j = 7 := by omega
        rcases h8 with rfl | rfl | rfl | rfl | rfl | rfl | rfl | rfl <;> decide
      have hx : ∀ w, (Instr.index 180 (.agg #[.int .i64 (-2), .int .i64 (-2), .int .i64 (-2), .int .i64 (-1), .int .i64 (-1), .int .i64 (-2), .int .i64 (-1), .int .i64 (-1), .int .i64 (-1), .int .i64 0, .int .i64 0, .int .i64 (-2), .int .i64 0, .int .i64 (-1), .int .i64 0, .int .i64 0]) (.int .i64 (j : Int))).run Tryz.prog w = .ok (.agg #[.int .i64 (utd j).1, .int .i64 (utd j).2]) w := fun w => at16_ix utd w j hj8
      have hpc := fun o => putC (w1.alloc o) p b R C word j (row + (utd j).1) (col + (utd j).2) _ (HP.out.all (hb1.out o)) hi (by omega) hw (by omega)
      have tk := putB_take C (utahS R C row col) g (8 * word) j _ ha
      have TK := Lib.hid tk; clear tk ha hi
      have HPC := Lib.hid hpc; clear hpc
      generalize (utd j).1 = dx at *
      generalize (utd j).2 = dy at *
      go_wp2_with fail
      refine (HPC.out _).mono ?_
      rintro e w2 ⟨rfl, hp2, hb2⟩
      rw [← TK.out] at hp2
      have HP2 := Lib.hid hp2; clear hp2 hx
      have HB2 := Lib.hid ((BU.out.thenAll (hb1.out _)).trans hb2); clear hb2
      go_wp2
      go_roundw
      case rel => exact ⟨j + 1, by omega, by go_num, HP2.out, HB2.out⟩
      case measure => simp [intOf]; omega
    · obtain rfl : j = 8 := by omega
      go_wp2
      refine bodyPost_end (results_none rfl _ _ _) rfl ?_
      exact ⟨rfl, HP.out, BU.out⟩
end Go.Proofs.YtcnallabiffemaaGreatDoor
namespace Go.Proofs.YtcnallabiffemaaGreatDoor
open Go.RowKit (wrap32 wrap64 intOf Hid Below)
open Zx

/-- a number, brought in from the end -/
def bI (n : Nat) (x : Int) : Int := if x < 0 then x + n else x
theorem adj_in {R C : Int} {q : Pl} (h : inR R C q = true) : adj R C q = q := by
  have := of_decide_eq_true h
  unfold adj
  simp only [if_neg (show ¬ q.1 < 0 by omega), if_neg (show ¬ q.2 < 0 by omega)]

set_option maxRecDepth 100000 in
set_option maxHeartbeats 4000000 in
theorem shapeC (w : World) (p b R C word : Nat) (g : Nat → Int) (c : Nat → Int × Int) (sh : Shp) (h : Plc w p b R C g) (hc : ∀ j, j < 8 → -8 ≤ (c j).1 ∧ (c j).1 ≤ 8 ∧ -8 ≤ (c j).2 ∧ (c j).2 ≤ 8) (hsh : ∀ j, j < 8 → sh[j]? = some (bI R (c j).1, bI C (c j).2))
    (hin : ∀ (j : Nat) (pl : Pl), sh[j]? = some pl → inR R C pl = true) (hl : sh.length = 8) (hw : word ≤ 5000) :
    Calls Tryz.prog 105 #[pt p, .int .i64 word, at16 c] w (ShTo w p b R C (putB C g sh (8 * word))) := by
  have HIN := Lib.hid hin; clear hin
  have HSH := Lib.hid hsh; clear hsh
  have HCC := Lib.hid hc; clear hc
  have HL := Lib.hid hl; clear hl
  have H0 := Lib.hid h; clear h
  have HIX := Lib.hid (at16_ix c)
  unfold at16 at HIX ⊢
  go_enter Tryz.func105, Tryz.ntmps105
  go_wp2_with fail
  have bb : Hid (∀ o, But (· = b) w (w.alloc o) ∧ Below w.heap.size w (w.alloc o)) := Lib.hid fun o => ⟨(But.refl _ _).thenAlloc o, (Below.refl _ _).alloc (Nat.le_refl _) o⟩
  go_loopw [9] (fun s9 wr => ∃ j : Nat, j ≤ 8 ∧ s9 = .int .i64 j ∧ Plc wr p b R C (putB C g (sh.take j) (8 * word)) ∧ But (· = b) w wr) (fun s9 _ => 8 - (intOf s9).toNat)
  case atStart => exact ⟨0, by decide, rfl, by rw [List.take_zero]; exact H0.out.all (bb.out _).2, (bb.out _).1⟩
  case round =>
    obtain ⟨j, hj, rfl, hp, hbut⟩ := hrel
    obtain ⟨w1, rfl⟩ : ∃ w1 : World, w1 = wr := ⟨_, rfl⟩
    have HP := Lib.hid hp; clear hp
    have BU := Lib.hid hbut; clear hbut
    by_cases hj8 : j < 8
    · have ha := HSH.out j hj8
      have hi := HIN.out j _ ha
      have hd := HCC.out j hj8
      have hx := fun w => HIX.out w j hj8
      have hii := of_decide_eq_true hi
      simp only at hii
      have hb1 : Hid (∀ o, Below w1.heap.size w1 (w1.alloc o)) := Lib.hid fun o => (Below.refl _ _).alloc (Nat.le_refl _) o
      have hbS : Hid (∀ w' : World, Below w1.heap.size w1 w' → ∀ m k v, Below w1.heap.size w1 ((w'.drewN m).setCell ⟨w1.heap.size, k, none⟩ v)) := Lib.hid fun w' hb m k v => (hb.trans (below_dn _ _ _)).setCell (Nat.le_refl _) _
      have hpc := fun w' (hb : Below w1.heap.size w1 w') => putC w' p b R C word j (bI R (c j).1) (bI C (c j).2) _ (HP.out.all hb) (by rw [adj_in hi]; exact hi) (by have := HP.out.bd; omega) hw (by omega)
      rw [adj_in hi] at hpc
      have tk := putB_take C sh g (8 * word) j _ ha
      have TK := Lib.hid tk; clear tk ha hi hii
      have HPC := Lib.hid hpc; clear hpc
      have hbd := HP.out.bd
      have k0 := HP.out.c0
      have k1 := HP.out.c1
      have hpl := HP.out.lt
      generalize (c j).1 = x at *
      generalize (c j).2 = y at *
      by_cases hx0 : x < 0
      · by_cases hy0 : y < 0
        · have ex : bI R x = x + R := if_pos hx0
          have ey : bI C y = y + C := if_pos hy0
          rw [ex, ey] at HPC TK
          clear ex ey
          go_wp2_with fail
          refine wp_region_quiet_tail 8 (by kernel_rfl) (by kernel_rfl) ?_
          simp only [List.take_succ_cons, List.take_zero, List.drop_succ_cons, List.drop_zero]
          repeat (first | go_big_quiet_step (fail) | quiet_step (fail))
          refine wpQuiet_nil ?_
          intro _ hw1q
          obtain ⟨nq, hw2q⟩ := hw1q
          subst hw2q
          go_wp2_with fail
          refine wp_region_quiet_tail 8 (by kernel_rfl) (by kernel_rfl) ?_
          simp only [List.take_succ_cons, List.take_zero, List.drop_succ_cons, List.drop_zero]
          repeat (first | go_big_quiet_step (fail) | quiet_step (fail))
          refine wpQuiet_nil ?_
          intro _ hw1q
          obtain ⟨nq, hw2q⟩ := hw1q
          subst hw2q
          go_wp2_with fail
          refine (HPC.out _ (hbS.out _ (hbS.out _ (hb1.out _) _ _ _) _ _ _)).mono ?_
          rintro e w2 ⟨rfl, hp2, hb2⟩
          rw [← TK.out] at hp2
          have HP2 := Lib.hid hp2; clear hp2 hx k0 k1
          have HB2 := Lib.hid ((BU.out.thenAll (hbS.out _ (hbS.out _ (hb1.out _) _ _ _) _ _ _)).trans hb2); clear hb2
          go_wp2
          go_roundw
          case rel => exact ⟨j + 1, by omega, by go_num, HP2.out, HB2.out⟩
          case measure => simp [intOf]; omega
        · have ex : bI R x = x + R := if_pos hx0
          have ey : bI C y = y := if_neg hy0
          rw [ex, ey] at HPC TK
          clear ex ey
          go_wp2_with fail
          refine wp_region_quiet_tail 8 (by kernel_rfl) (by kernel_rfl) ?_
          simp only [List.take_succ_cons, List.take_zero, List.drop_succ_cons, List.drop_zero]
          repeat (first | go_big_quiet_step (fail) | quiet_step (fail))
          refine wpQuiet_nil ?_
          intro _ hw1q
          obtain ⟨nq, hw2q⟩ := hw1q
          subst hw2q
          go_wp2_with fail
          refine (HPC.out _ (hbS.out _ (hb1.out _) _ _ _)).mono ?_
          rintro e w2 ⟨rfl, hp2, hb2⟩
          rw [← TK.out] at hp2
          have HP2 := Lib.hid hp2; clear hp2 hx k0 k1
          have HB2 := Lib.hid ((BU.out.thenAll (hbS.out _ (hb1.out _) _ _ _)).trans hb2); clear hb2
          go_wp2
          go_roundw
          case rel => exact ⟨j + 1, by omega, by go_num, HP2.out, HB2.out⟩
          case measure => simp [intOf]; omega
      · by_cases hy0 : y < 0
        · have ex : bI R x = x := if_neg hx0
          have ey : bI C y = y + C := if_pos hy0
          rw [ex, ey] at HPC TK
          clear ex ey
          go_wp2_with fail
          refine wp_region_quiet_tail 8 (by kernel_rfl) (by kernel_rfl) ?_
          simp only [List.take_succ_cons, List.take_zero, List.drop_succ_cons, List.drop_zero]
          repeat (first | go_big_quiet_step (fail) | quiet_step (fail))
          refine wpQuiet_nil ?_
          intro _ hw1q
          obtain ⟨nq, hw2q⟩ := hw1q
          subst hw2q
          go_wp2_with fail
          refine (HPC.out _ (hbS.out _ (hb1.out _) _ _ _)).mono ?_
          rintro e w2 ⟨rfl, hp2, hb2⟩
          rw [← TK.out] at hp2
          have HP2 := Lib.hid hp2; clear hp2 hx k0 k1
          have HB2 := Lib.hid ((BU.out.thenAll (hbS.out _ (hb1.out _) _ _ _)).trans hb2); clear hb2
          go_wp2
          go_roundw
          case rel => exact ⟨j + 1, by omega, by go_num, HP2.out, HB2.out⟩
          case measure => simp [intOf]; omega
        · have ex : bI R x = x := if_neg hx0
          have ey : bI C y = y := if_neg hy0
          rw [ex, ey] at HPC TK
          clear ex ey k0 k1
          go_wp2_with fail
          refine (HPC.out _ (hb1.out _)).mono ?_
          rintro e w2 ⟨rfl, hp2, hb2⟩
          rw [← TK.out] at hp2
          have HP2 := Lib.hid hp2; clear hp2 hx
          have HB2 := Lib.hid ((BU.out.thenAll (hb1.out _)).trans hb2); clear hb2
          go_wp2
          go_roundw
          case rel => exact ⟨j + 1, by omega, by go_num, HP2.out, HB2.out⟩
          case measure => simp [intOf]; omega
    · obtain rfl : j = 8 := by omega
      have hf := HP.out
      rw [List.take_of_length_le (by rw [HL.out]; exact Nat.le_refl _)] at hf
      have HF := Lib.hid hf; clear hf
      go_wp2
      refine bodyPost_end (results_none rfl _ _ _) rfl ?_
      exact ⟨rfl, HF.out, BU.out⟩
end Go.Proofs.YtcnallabiffemaaGreatDoor
namespace Go.Proofs.YtcnallabiffemaaGreatDoor
open Go.RowKit (wrap32 wrap64 intOf Hid Below)
open Zx

def cs1 (j : Nat) : Int × Int := [((-1 : Int), (0 : Int)), ((-1 : Int), (1 : Int)), ((-1 : Int), (2 : Int)), ((0 : Int), (-2 : Int)), ((0 : Int), (-1 : Int)), ((1 : Int), (-1 : Int)), ((2 : Int), (-1 : Int)), ((3 : Int), (-1 : Int))].getD j (0, 0)
theorem cs1_at (R C : Nat) (j : Nat) (hj : j < 8) : (corn1 R C)[j]? = some (bI R (cs1 j).1, bI C (cs1 j).2) ∧ -8 ≤ (cs1 j).1 ∧ (cs1 j).1 ≤ 8 ∧ -8 ≤ (cs1 j).2 ∧ (cs1 j).2 ≤ 8 := by
  have h8 : j = 0 ∨ j = 1 ∨ j = 2 ∨ j = 3 ∨ j = 4 ∨ j = 5 ∨ j = 6 ∨ j = 7 := by omega
  rcases h8 with rfl | rfl | rfl | rfl | rfl | rfl | rfl | rfl <;> simp [corn1, cs1, bI] <;> omega
theorem cs1_lit : at16 cs1 = .agg #[.int .i64 (-1), .int .i64 0, .int .i64 (-1), .int .i64 1, .int .i64 (-1), .int .i64 2, .int .i64 0, .int .i64 (-2), .int .i64 0, .int .i64 (-1), .int .i64 1, .int .i64 (-1), .int .i64 2, .int .i64 (-1), .int .i64 3, .int .i64 (-1)] := rfl
def cs4 (j : Nat) : Int × Int := [((-3 : Int), (0 : Int)), ((-2 : Int), (0 : Int)), ((-1 : Int), (0 : Int)), ((0 : Int), (-2 : Int)), ((0 : Int), (-1 : Int)), ((1 : Int), (-1 : Int)), ((2 : Int), (-1 : Int)), ((3 : Int), (-1 : Int))].getD j (0, 0)
theorem cs4_at (R C : Nat) (j : Nat) (hj : j < 8) : (corn4 R C)[j]? = some (bI R (cs4 j).1, bI C (cs4 j).2) ∧ -8 ≤ (cs4 j).1 ∧ (cs4 j).1 ≤ 8 ∧ -8 ≤ (cs4 j).2 ∧ (cs4 j).2 ≤ 8 := by
  have h8 : j = 0 ∨ j = 1 ∨ j = 2 ∨ j = 3 ∨ j = 4 ∨ j = 5 ∨ j = 6 ∨ j = 7 := by omega
  rcases h8 with rfl | rfl | rfl | rfl | rfl | rfl | rfl | rfl <;> simp [corn4, cs4, bI] <;> omega
theorem cs4_lit : at16 cs4 = .agg #[.int .i64 (-3), .int .i64 0, .int .i64 (-2), .int .i64 0, .int .i64 (-1), .int .i64 0, .int .i64 0, .int .i64 (-2), .int .i64 0, .int .i64 (-1), .int .i64 1, .int .i64 (-1), .int .i64 2, .int .i64 (-1), .int .i64 3, .int .i64 (-1)] := rfl
def cs2 (j : Nat) : Int × Int := [((-3 : Int), (0 : Int)), ((-2 : Int), (0 : Int)), ((-1 : Int), (0 : Int)), ((0 : Int), (-4 : Int)), ((0 : Int), (-3 : Int)), ((0 : Int), (-2 : Int)), ((0 : Int), (-1 : Int)), ((1 : Int), (-1 : Int))].getD j (0, 0)
theorem cs2_at (R C : Nat) (j : Nat) (hj : j < 8) : (corn2 R C)[j]? = some (bI R (cs2 j).1, bI C (cs2 j).2) ∧ -8 ≤ (cs2 j).1 ∧ (cs2 j).1 ≤ 8 ∧ -8 ≤ (cs2 j).2 ∧ (cs2 j).2 ≤ 8 := by
  have h8 : j = 0 ∨ j = 1 ∨ j = 2 ∨ j = 3 ∨ j = 4 ∨ j = 5 ∨ j = 6 ∨ j = 7 := by omega
  rcases h8 with rfl | rfl | rfl | rfl | rfl | rfl | rfl | rfl <;> simp [corn2, cs2, bI] <;> omega
theorem cs2_lit : at16 cs2 = .agg #[.int .i64 (-3), .int .i64 0, .int .i64 (-2), .int .i64 0, .int .i64 (-1), .int .i64 0, .int .i64 0, .int .i64 (-4), .int .i64 0, .int .i64 (-3), .int .i64 0, .int .i64 (-2), .int .i64 0, .int .i64 (-1), .int .i64 1, .int .i64 (-1)] := rfl
def cs3 (j : Nat) : Int × Int := [((-1 : Int), (0 : Int)), ((-1 : Int), (-1 : Int)), ((0 : Int), (-3 : Int)), ((0 : Int), (-2 : Int)), ((0 : Int), (-1 : Int)), ((1 : Int), (-3 : Int)), ((1 : Int), (-2 : Int)), ((1 : Int), (-1 : Int))].getD j (0, 0)
theorem cs3_at (R C : Nat) (j : Nat) (hj : j < 8) : (corn3 R C)[j]? = some (bI R (cs3 j).1, bI C (cs3 j).2) ∧ -8 ≤ (cs3 j).1 ∧ (cs3 j).1 ≤ 8 ∧ -8 ≤ (cs3 j).2 ∧ (cs3 j).2 ≤ 8 := by
  have h8 : j = 0 ∨ j = 1 ∨ j = 2 ∨ j = 3 ∨ j = 4 ∨ j = 5 ∨ j = 6 ∨ j = 7 := by omega
  rcases h8 with rfl | rfl | rfl | rfl | rfl | rfl | rfl | rfl <;> simp [corn3, cs3, bI] <;> omega
theorem cs3_lit : at16 cs3 = .agg #[.int .i64 (-1), .int .i64 0, .int .i64 (-1), .int .i64 (-1), .int .i64 0, .int .i64 (-3), .int .i64 0, .int .i64 (-2), .int .i64 0, .int .i64 (-1), .int .i64 1, .int .i64 (-3), .int .i64 1, .int .i64 (-2), .int .i64 1, .int .i64 (-1)] := rfl

def CoTo (w : World) (p b R C word : Nat) (row col : Int) (g : Nat → Int) (e : Ending) (w' : World) : Prop :=
  But (· = b) w w' ∧ ((corner R C row col = none ∧ e = .returned (.bool false) ∧ Plc w' p b R C g) ∨ ∃ sh, corner R C row col = some sh ∧ e = .returned (.bool true) ∧ Plc w' p b R C (putB C g sh (8 * word)))

set_option maxRecDepth 100000 in
set_option maxHeartbeats 4000000 in
theorem cornersC (w : World) (p b R C word : Nat) (row col : Int) (g : Nat → Int) (h : Plc w p b R C g) (hin : ∀ sh, corner R C row col = some sh → ∀ (j : Nat) (pl : Pl), sh[j]? = some pl → inR R C pl = true) (hrb : -500000 ≤ row ∧ row ≤ 500000 ∧ -500000 ≤ col ∧ col ≤ 500000) (hw : word ≤ 5000) :
    Calls Tryz.prog 63 #[pt p, .int .i64 row, .int .i64 col, .int .i64 word] w (CoTo w p b R C word row col g) := by
  have HIN := Lib.hid hin; clear hin
  have c0 := h.c0
  have c1 := h.c1
  have hbd := h.bd
  have H0 := Lib.hid h; clear h
  go_enter Tryz.func63, Tryz.ntmps63
  go_upto_region 2 with fail
  go_cut [9] from 10 to 19 (fun s wx => s = .bool (decide (row = (R : Int) ∧ col = 0)) ∧ wx = w)
  case first =>
    by_cases h1 : row = (R : Int)
    · have q0 := int_bt h1
      have K0 := Lib.hid h1; clear h1
      by_cases h2 : col = 0
      · have q1 := int_bt h2
        have K1 := Lib.hid h2; clear h2
        go_wp2
        go_meet
        exact ⟨congrArg Value.bool (by simp [K0.out, K1.out]), rfl⟩
      · have q1 := int_bf h2
        have K1 := Lib.hid h2; clear h2
        go_wp2
        go_meet
        exact ⟨congrArg Value.bool (by simp [K0.out, K1.out]), rfl⟩
    · have q0 := int_bf h1
      have K0 := Lib.hid h1; clear h1
      go_wp2
      go_meet
      exact ⟨congrArg Value.bool (by simp [K0.out]), rfl⟩
  obtain ⟨rfl, hwc⟩ := hcut
  rw [hwc]; clear hwc wc
  apply_assumption
  by_cases hc0 : row = (R : Int) ∧ col = 0
  · rw [decide_eq_true hc0]
    have hco : corner R C row col = some (corn1 R C) := by unfold corner;  rw [if_pos hc0]
    have sc := shapeC w p b R C word g cs1 (corn1 R C) H0.out (fun j hj => (cs1_at R C j hj).2) (fun j hj => (cs1_at R C j hj).1) (HIN.out _ hco) rfl hw
    rw [cs1_lit] at sc
    have HCO := Lib.hid hco; clear hco
    clear hc0 
    go_wp2_with fail
    refine sc.mono ?_
    rintro e w2 ⟨rfl, hp2, hb2⟩
    have HP2 := Lib.hid hp2; clear hp2 sc
    have HB2 := Lib.hid hb2; clear hb2
    go_wp2
    go_ret
    exact ⟨HB2.out, .inr ⟨_, HCO.out, rfl, HP2.out⟩⟩
  rw [decide_eq_false hc0]
  go_upto_region 4 with fail
  go_cut [32] from 33 to 51 (fun s wx => s = .bool (decide (row = (R : Int) - 2 ∧ col = 0 ∧ (C : Int) % 8 = 4)) ∧ wx = w)
  case first =>
    by_cases h1 : row = (R : Int) - 2
    · have q0 := int_bt h1
      have K0 := Lib.hid h1; clear h1
      by_cases h2 : col = 0
      · have q1 := int_bt h2
        have K1 := Lib.hid h2; clear h2
        by_cases h3 : (C : Int) % 8 = 4
        · have q2 := int_bt (a := (C : Int) % 8) (b := 4) h3
          have K2 := Lib.hid h3; clear h3
          go_wp2
          go_meet
          exact ⟨congrArg Value.bool (by simp [K0.out, K1.out, K2.out]), rfl⟩
        · have q2 := int_bf (a := (C : Int) % 8) (b := 4) (by first | exact h3 | omega)
          have K2 := Lib.hid h3; clear h3
          go_wp2
          go_meet
          exact ⟨congrArg Value.bool (by simp [K0.out, K1.out, K2.out]), rfl⟩
      · have q1 := int_bf h2
        have K1 := Lib.hid h2; clear h2
        go_wp2
        go_meet
        exact ⟨congrArg Value.bool (by simp [K0.out, K1.out]), rfl⟩
    · have q0 := int_bf h1
      have K0 := Lib.hid h1; clear h1
      go_wp2
      go_meet
      exact ⟨congrArg Value.bool (by simp [K0.out]), rfl⟩
  obtain ⟨rfl, hwc⟩ := hcut
  rw [hwc]; clear hwc wc
  apply_assumption
  by_cases hc1 : row = (R : Int) - 2 ∧ col = 0 ∧ (C : Int) % 8 = 4
  · rw [decide_eq_true hc1]
    have hco : corner R C row col = some (corn4 R C) := by unfold corner; rw [if_neg hc0]; rw [if_pos hc1]
    have sc := shapeC w p b R C word g cs4 (corn4 R C) H0.out (fun j hj => (cs4_at R C j hj).2) (fun j hj => (cs4_at R C j hj).1) (HIN.out _ hco) rfl hw
    rw [cs4_lit] at sc
    have HCO := Lib.hid hco; clear hco
    clear hc1 hc0
    go_wp2_with fail
    refine sc.mono ?_
    rintro e w2 ⟨rfl, hp2, hb2⟩
    have HP2 := Lib.hid hp2; clear hp2 sc
    have HB2 := Lib.hid hb2; clear hb2
    go_wp2
    go_ret
    exact ⟨HB2.out, .inr ⟨_, HCO.out, rfl, HP2.out⟩⟩
  rw [decide_eq_false hc1]
  go_upto_region 6 with fail
  go_cut [64] from 65 to 83 (fun s wx => s = .bool (decide (row = (R : Int) - 2 ∧ col = 0 ∧ (C : Int) % 4 ≠ 0)) ∧ wx = w)
  case first =>
    by_cases h1 : row = (R : Int) - 2
    · have q0 := int_bt h1
      have K0 := Lib.hid h1; clear h1
      by_cases h2 : col = 0
      · have q1 := int_bt h2
        have K1 := Lib.hid h2; clear h2
        by_cases h3 : (C : Int) % 4 ≠ 0
        · have q2 := int_nt (a := (C : Int) % 4) (b := 0) h3
          have K2 := Lib.hid h3; clear h3
          go_wp2
          go_meet
          exact ⟨congrArg Value.bool (by simp [K0.out, K1.out, K2.out]), rfl⟩
        · have q2 := int_nf (a := (C : Int) % 4) (b := 0) (by first | exact h3 | omega)
          have K2 := Lib.hid h3; clear h3
          go_wp2
          go_meet
          exact ⟨congrArg Value.bool (by simp [K0.out, K1.out, K2.out]), rfl⟩
      · have q1 := int_bf h2
        have K1 := Lib.hid h2; clear h2
        go_wp2
        go_meet
        exact ⟨congrArg Value.bool (by simp [K0.out, K1.out]), rfl⟩
    · have q0 := int_bf h1
      have K0 := Lib.hid h1; clear h1
      go_wp2
      go_meet
      exact ⟨congrArg Value.bool (by simp [K0.out]), rfl⟩
  obtain ⟨rfl, hwc⟩ := hcut
  rw [hwc]; clear hwc wc
  apply_assumption
  by_cases hc2 : row = (R : Int) - 2 ∧ col = 0 ∧ (C : Int) % 4 ≠ 0
  · rw [decide_eq_true hc2]
    have hco : corner R C row col = some (corn2 R C) := by unfold corner; rw [if_neg hc0]; rw [if_neg hc1]; rw [if_pos hc2]
    have sc := shapeC w p b R C word g cs2 (corn2 R C) H0.out (fun j hj => (cs2_at R C j hj).2) (fun j hj => (cs2_at R C j hj).1) (HIN.out _ hco) rfl hw
    rw [cs2_lit] at sc
    have HCO := Lib.hid hco; clear hco
    clear hc2 hc0 hc1
    go_wp2_with fail
    refine sc.mono ?_
    rintro e w2 ⟨rfl, hp2, hb2⟩
    have HP2 := Lib.hid hp2; clear hp2 sc
    have HB2 := Lib.hid hb2; clear hb2
    go_wp2
    go_ret
    exact ⟨HB2.out, .inr ⟨_, HCO.out, rfl, HP2.out⟩⟩
  rw [decide_eq_false hc2]
  go_upto_region 8 with fail
  go_cut [96] from 97 to 115 (fun s wx => s = .bool (decide (row = (R : Int) + 4 ∧ col = 2 ∧ (C : Int) % 8 = 0)) ∧ wx = w)
  case first =>
    by_cases h1 : row = (R : Int) + 4
    · have q0 := int_bt h1
      have K0 := Lib.hid h1; clear h1
      by_cases h2 : col = 2
      · have q1 := int_bt h2
        have K1 := Lib.hid h2; clear h2
        by_cases h3 : (C : Int) % 8 = 0
        · have q2 := int_bt (a := (C : Int) % 8) (b := 0) h3
          have K2 := Lib.hid h3; clear h3
          go_wp2
          go_meet
          exact ⟨congrArg Value.bool (by simp [K0.out, K1.out, K2.out]), rfl⟩
        · have q2 := int_bf (a := (C : Int) % 8) (b := 0) (by first | exact h3 | omega)
          have K2 := Lib.hid h3; clear h3
          go_wp2
          go_meet
          exact ⟨congrArg Value.bool (by simp [K0.out, K1.out, K2.out]), rfl⟩
      · have q1 := int_bf h2
        have K1 := Lib.hid h2; clear h2
        go_wp2
        go_meet
        exact ⟨congrArg Value.bool (by simp [K0.out, K1.out]), rfl⟩
    · have q0 := int_bf h1
      have K0 := Lib.hid h1; clear h1
      go_wp2
      go_meet
      exact ⟨congrArg Value.bool (by simp [K0.out]), rfl⟩
  obtain ⟨rfl, hwc⟩ := hcut
  rw [hwc]; clear hwc wc
  apply_assumption
  by_cases hc3 : row = (R : Int) + 4 ∧ col = 2 ∧ (C : Int) % 8 = 0
  · rw [decide_eq_true hc3]
    have hco : corner R C row col = some (corn3 R C) := by unfold corner; rw [if_neg hc0]; rw [if_neg hc1]; rw [if_neg hc2]; rw [if_pos hc3]
    have sc := shapeC w p b R C word g cs3 (corn3 R C) H0.out (fun j hj => (cs3_at R C j hj).2) (fun j hj => (cs3_at R C j hj).1) (HIN.out _ hco) rfl hw
    rw [cs3_lit] at sc
    have HCO := Lib.hid hco; clear hco
    clear hc3 hc0 hc1 hc2
    go_wp2_with fail
    refine sc.mono ?_
    rintro e w2 ⟨rfl, hp2, hb2⟩
    have HP2 := Lib.hid hp2; clear hp2 sc
    have HB2 := Lib.hid hb2; clear hb2
    go_wp2
    go_ret
    exact ⟨HB2.out, .inr ⟨_, HCO.out, rfl, HP2.out⟩⟩
  rw [decide_eq_false hc3]
  have hco : corner R C row col = none := by unfold corner; rw [if_neg hc0, if_neg hc1, if_neg hc2, if_neg hc3]
  have HCO := Lib.hid hco; clear hco hc0 hc1 hc2 hc3
  go_wp2
  go_ret
  exact ⟨But.refl _ _, .inl ⟨HCO.out, rfl, H0.out⟩⟩
end Go.Proofs.YtcnallabiffemaaGreatDoor
