import Derived.Lib.Builder
import Derived.Deep.RegionWith
import Derived.StillTail
import Derived.Deep.Quiet
import Derived.BigQuiet
import Derived.Test.YtcnallabiffemaaGreatDoorM02
/- Part of the proof that a Data Matrix symbol of a text, damaged at most to half of its check codewords in each block, is decoded to the text (FnDecode): texts Pb Blk Pc Pd Pe Qt Pf. -/
set_option linter.unusedVariables false
set_option linter.unusedSimpArgs false
namespace Go.Proofs.YtcnallabiffemaaGreatDoor
open Go.RowKit (wrap32 wrap64 intOf Hid Below)
open Zx
theorem info224 : ∃ j, Tryz.prog.info? 224 = some j := Option.isSome_iff_exists.1 (by kernel_rfl)
theorem neq95 (a : Addr) (u : World) : (binOp .neq 95 (.pointer (some a)) (.pointer (some a))).run Tryz.prog u = .ok (.bool false) u := by
  obtain ⟨j, hj⟩ := info224
  exact Lib.run_neq_ptr_same (P := Tryz.prog) u a Tryz.underlying95 hj
theorem info3 : (Tryz.prog.info? 3).map (fun i => (i.zero, i.size, i.bytes)) = some (some (.int .i64 0), 1, 8) := by kernel_rfl

theorem size3 : (Tryz.prog.info? 3).map (·.size) = some 1 := by kernel_rfl

theorem isZero_f (w : World) (fb p : Nat) (a : List F) (ha : Poly w fb p a) (na : hi a 0 ≠ 0) :
    Calls Tryz.prog 213 #[pt p] w fun e w' => e = .returned (.bool false) ∧ w = w' := by
  obtain ⟨ab, ao, ac, pa0, pa1, pa2, pa3, pa4, pa5, pa6, pa7⟩ := ha
  have za := beq_f0 _ na
  have ca0 : w.cell? ⟨ab, ao, none⟩ = some (fv (hi a 0)) := pa7 0 pa3
  clear pa7 na
  go_enter Tryz.func213, Tryz.ntmps213
  go_wp2
  go_ret
  exact ⟨rfl, rfl⟩
theorem isZero_t (w : World) (fb p : Nat) (a : List F) (ha : Poly w fb p a) (na : hi a 0 = 0) :
    Calls Tryz.prog 213 #[pt p] w fun e w' => e = .returned (.bool true) ∧ w = w' := by
  obtain ⟨ab, ao, ac, pa0, pa1, pa2, pa3, pa4, pa5, pa6, pa7⟩ := ha
  have za := beq_f1 _ na
  have ca0 : w.cell? ⟨ab, ao, none⟩ = some (fv (hi a 0)) := pa7 0 pa3
  clear pa7 na
  go_enter Tryz.func213, Tryz.ntmps213
  go_wp2
  go_ret
  exact ⟨rfl, rfl⟩

theorem xorc (a b : F) (w : World) : Calls Tryz.prog 173 #[fv a, fv b] w fun e w' => e = .returned (fv (a + b)) ∧ w' = w := by
  go_enter Tryz.func173, Tryz.ntmps173
  go_wp2
  go_ret
  exact ⟨ret_int (xor_f a b), rfl⟩

theorem Poly.drewN {w : World} {fb p : Nat} {l : List F} (h : Poly w fb p l) (n : Nat) : Poly (w.drewN n) fb p l := h

set_option maxRecDepth 100000 in
theorem addP_le (w : World) (fb p q : Nat) (a b : List F) (ha : Poly w fb p a) (hb : Poly w fb q b) (na : hi a 0 ≠ 0) (nb : hi b 0 ≠ 0) (hlen : a.length ≤ b.length) :
    Calls Tryz.prog 215 #[pt p, pt q] w (MkPoly w fb (nrm (sumL a b))) := by
  have PA := Lib.hid ha
  have PB := Lib.hid hb
  have NA := Lib.hid na
  have NB := Lib.hid nb
  obtain ⟨ab, ao, ac, pa0, pa1, pa2, pa3, pa4, pa5, pa6, pa7⟩ := ha
  obtain ⟨bb, bo, bc, pb0, pb1, pb2, pb3, pb4, pb5, pb6, pb7⟩ := hb
  have HA := Lib.hid pa7; clear pa7
  have HB := Lib.hid pb7; clear pb7
  clear na nb
  have hmk := run_make_row' (P := Tryz.prog) 22 3 (.int .i64 0) 8 Tryz.underlying22 info3 rfl .i64 .i64 b.length (by omega) (by omega)
  have hnp := neq95 ⟨fb, 0, none⟩
  have hd : decide (b.length < a.length) = false := by simpa using hlen
  go_enter Tryz.func215, Tryz.ntmps215
  go_wp2_with fail
  go_quiet (fail)
  go_wp2_with fail
  refine (isZero_f _ fb p a (PA.out.drewN _) NA.out).mono ?_
  rintro e w' ⟨rfl, rfl⟩
  go_wp2_with fail
  refine (isZero_f _ fb q b (PB.out.drewN _) NB.out).mono ?_
  rintro e w' ⟨rfl, rfl⟩
  go_wp2_with ((with_reducible show wpList _ _ _ (Oper.mk (some 54) _ _ _ _ _ :: _) _ _); go_loud (refine wpList_copy_row rfl (.tmp 50) (.tmp 53) 22 22 rfl 3 Tryz.underlying22 size3 w.heap.size 0 b.length b.length (some ⟨bb, bo, none⟩) (b.length - a.length) bc ?hd ?hs 3 b.length (fun _ => .int .i64 0) ?c0 (b.length - a.length) ?c1 (fun j => fv (hi b j)) ?c2 ?c3 ?c4 w.heap.size w ?c5 ?c6 ?_))
  case hd => rfl
  case hs => rfl
  case c0 => exact World.rowIs_made (w.drewN nq) _ _ _
  case c1 => exact (Nat.min_eq_left (by omega)).symm
  case c2 => exact fun _ => ⟨_, rfl, fun j hj => by rw [addr_add]; exact cell_al (w := w.drewN nq) pb6 (HB.out j (by omega)) _⟩
  case c3 => omega
  case c4 => exact fun _ => rfl
  case c5 => exact (below_dn _ _ _).alloc (Nat.le_refl _) _
  case c6 => exact Nat.le_refl _
  intro w2 hrow hbel
  go_wp2
  go_loopw [10] (fun i wr => ∃ k : Nat, b.length - a.length ≤ k ∧ k ≤ b.length ∧ i = .int .i64 k ∧ wr.rowIs w.heap.size 3 b.length (fun j => if j < k then fv (if j < b.length - a.length then hi b j else hi a (j - (b.length - a.length)) + hi b j) else .int .i64 0) ∧ Below w.heap.size w wr)
    (fun i _ => b.length - (intOf i).toNat)
  case atStart =>
    refine ⟨b.length - a.length, Nat.le_refl _, by omega, by go_num, hrow.out.congr fun i _ => ?_, hbel⟩
    by_cases h : i < b.length - a.length
    · rw [if_pos h, if_pos h, if_pos h]
    · rw [if_neg h, if_neg h]
  case round =>
    obtain ⟨k, hk1, hk2, rfl, hr, hb2⟩ := hrel
    have HR := Lib.hid hr; clear hr
    have fp := (hb2.cell (p := ⟨p, 0, none⟩) pa5).trans pa0
    have hsz := hb2.size
    by_cases hlt : k < b.length
    · have fa : wr.cell? ⟨ab, ao + (k - (b.length - a.length)), none⟩ = some (fv (hi a (k - (b.length - a.length)))) := (hb2.cell (p := ⟨ab, _, none⟩) pa6).trans (HA.out _ (by omega))
      have fb' : wr.cell? ⟨bb, bo + k, none⟩ = some (fv (hi b k)) := (hb2.cell (p := ⟨bb, _, none⟩) pb6).trans (HB.out _ hlt)
      go_wp2_with fail
      obtain ⟨j, hj⟩ : ∃ j, j = k - (b.length - a.length) := ⟨_, rfl⟩
      rw [← hj] at fa
      have g1 : j < a.length := by omega
      have ew : IntKind.i64.wrap ((k : Int) - ((b.length : Int) - (a.length : Int))) = (j : Int) := by rw [IntKind.wrap_i64]; omega
      have HJ := Lib.hid hj; clear hj
      have fc : wr.cell? ⟨w.heap.size, k, none⟩ = some (.int .i64 0) := by rw [HR.out.cell hlt, if_neg (Nat.lt_irrefl k)]
      have ff := HR.out.frozen k
      refine wp_region_still_tail 14 (by kernel_rfl) (by kernel_rfl) ?_
      simp only [List.take_succ_cons, List.take_zero, List.drop_succ_cons, List.drop_zero]
      repeat still_step
      still_call (xorc _ _ _)
      repeat still_step
      refine wpStill_nil ?_
      change wpList _ _ _ _ _ wr.drew
      go_wp2
      go_roundw
      case rel =>
        refine ⟨k + 1, by omega, by omega, by go_num, ?_, ?_⟩
        · refine (HR.out.set k _).drew.congr fun i hi' => ?_
          by_cases h1 : i = k
          · subst h1
            rw [if_pos rfl, if_pos (Nat.lt_succ_self i), if_neg (show ¬ i < b.length - a.length by omega), ← HJ.out]
          · rw [if_neg h1]
            by_cases h2 : i < k
            · rw [if_pos h2, if_pos (show i < k + 1 by omega)]
            · rw [if_neg h2, if_neg (show ¬ i < k + 1 by omega)]
        · exact (hb2.setCell (Nat.le_refl _) _).drew
      case measure => simp [intOf]; omega
    · obtain rfl : k = b.length := by omega
      go_wp2_with fail
      refine (newPoly_of wr fb w.heap.size 0 _ _ (sumL a b) (sumL_len a b) (by omega) (by omega) (Nat.le_refl _) HR.out.lt (Cs.of_row HR.out (by rw [sumL_len]; exact Nat.le_refl _) ?_)).mono ?_
      · intro i hi'
        rw [sumL_len] at hi'
        rw [if_pos hi']
        unfold sumL
        rw [hi_map _ _ _ hi']
      · rintro e w3 ⟨r, rfl, hpoly, hb3⟩
        go_wp2
        go_ret2
        exact ⟨r, rfl, hpoly, hb2.trans (hb3.mono hsz)⟩
set_option maxRecDepth 100000 in
theorem addP_gt (w : World) (fb p q : Nat) (a b : List F) (ha : Poly w fb p a) (hb : Poly w fb q b) (na : hi a 0 ≠ 0) (nb : hi b 0 ≠ 0) (hlen : b.length < a.length) :
    Calls Tryz.prog 215 #[pt p, pt q] w (MkPoly w fb (nrm (sumL b a))) := by
  have PA := Lib.hid ha
  have PB := Lib.hid hb
  have NA := Lib.hid na
  have NB := Lib.hid nb
  obtain ⟨ab, ao, ac, pa0, pa1, pa2, pa3, pa4, pa5, pa6, pa7⟩ := ha
  obtain ⟨bb, bo, bc, pb0, pb1, pb2, pb3, pb4, pb5, pb6, pb7⟩ := hb
  have HA := Lib.hid pa7; clear pa7
  have HB := Lib.hid pb7; clear pb7
  clear na nb
  have hmk := run_make_row' (P := Tryz.prog) 22 3 (.int .i64 0) 8 Tryz.underlying22 info3 rfl .i64 .i64 a.length (by omega) (by omega)
  have hnp := neq95 ⟨fb, 0, none⟩
  have hd : decide (b.length < a.length) = true := by simpa using hlen
  go_enter Tryz.func215, Tryz.ntmps215
  go_wp2_with fail
  go_quiet (fail)
  go_wp2_with fail
  refine (isZero_f _ fb p a (PA.out.drewN _) NA.out).mono ?_
  rintro e w' ⟨rfl, rfl⟩
  go_wp2_with fail
  refine (isZero_f _ fb q b (PB.out.drewN _) NB.out).mono ?_
  rintro e w' ⟨rfl, rfl⟩
  go_wp2_with ((with_reducible show wpList _ _ _ (Oper.mk (some 54) _ _ _ _ _ :: _) _ _); go_loud (refine wpList_copy_row rfl (.tmp 50) (.tmp 53) 22 22 rfl 3 Tryz.underlying22 size3 w.heap.size 0 a.length a.length (some ⟨ab, ao, none⟩) (a.length - b.length) ac ?hd ?hs 3 a.length (fun _ => .int .i64 0) ?c0 (a.length - b.length) ?c1 (fun j => fv (hi a j)) ?c2 ?c3 ?c4 w.heap.size w ?c5 ?c6 ?_))
  case hd => rfl
  case hs => rfl
  case c0 => exact World.rowIs_made (w.drewN nq) _ _ _
  case c1 => exact (Nat.min_eq_left (by omega)).symm
  case c2 => exact fun _ => ⟨_, rfl, fun j hj => by rw [addr_add]; exact cell_al (w := w.drewN nq) pa6 (HA.out j (by omega)) _⟩
  case c3 => omega
  case c4 => exact fun _ => rfl
  case c5 => exact (below_dn _ _ _).alloc (Nat.le_refl _) _
  case c6 => exact Nat.le_refl _
  intro w2 hrow hbel
  go_wp2
  go_loopw [10] (fun i wr => ∃ k : Nat, a.length - b.length ≤ k ∧ k ≤ a.length ∧ i = .int .i64 k ∧ wr.rowIs w.heap.size 3 a.length (fun j => if j < k then fv (if j < a.length - b.length then hi a j else hi b (j - (a.length - b.length)) + hi a j) else .int .i64 0) ∧ Below w.heap.size w wr)
    (fun i _ => a.length - (intOf i).toNat)
  case atStart =>
    refine ⟨a.length - b.length, Nat.le_refl _, by omega, by go_num, hrow.out.congr fun i _ => ?_, hbel⟩
    by_cases h : i < a.length - b.length
    · rw [if_pos h, if_pos h, if_pos h]
    · rw [if_neg h, if_neg h]
  case round =>
    obtain ⟨k, hk1, hk2, rfl, hr, hb2⟩ := hrel
    have HR := Lib.hid hr; clear hr
    have fp := (hb2.cell (p := ⟨p, 0, none⟩) pa5).trans pa0
    have hsz := hb2.size
    by_cases hlt : k < a.length
    · have fa : wr.cell? ⟨bb, bo + (k - (a.length - b.length)), none⟩ = some (fv (hi b (k - (a.length - b.length)))) := (hb2.cell (p := ⟨bb, _, none⟩) pb6).trans (HB.out _ (by omega))
      have fb' : wr.cell? ⟨ab, ao + k, none⟩ = some (fv (hi a k)) := (hb2.cell (p := ⟨ab, _, none⟩) pa6).trans (HA.out _ hlt)
      go_wp2_with fail
      obtain ⟨j, hj⟩ : ∃ j, j = k - (a.length - b.length) := ⟨_, rfl⟩
      rw [← hj] at fa
      have g1 : j < b.length := by omega
      have ew : IntKind.i64.wrap ((k : Int) - ((a.length : Int) - (b.length : Int))) = (j : Int) := by rw [IntKind.wrap_i64]; omega
      have HJ := Lib.hid hj; clear hj
      have fc : wr.cell? ⟨w.heap.size, k, none⟩ = some (.int .i64 0) := by rw [HR.out.cell hlt, if_neg (Nat.lt_irrefl k)]
      have ff := HR.out.frozen k
      refine wp_region_still_tail 14 (by kernel_rfl) (by kernel_rfl) ?_
      simp only [List.take_succ_cons, List.take_zero, List.drop_succ_cons, List.drop_zero]
      repeat still_step
      still_call (xorc _ _ _)
      repeat still_step
      refine wpStill_nil ?_
      change wpList _ _ _ _ _ wr.drew
      go_wp2
      go_roundw
      case rel =>
        refine ⟨k + 1, by omega, by omega, by go_num, ?_, ?_⟩
        · refine (HR.out.set k _).drew.congr fun i hi' => ?_
          by_cases h1 : i = k
          · subst h1
            rw [if_pos rfl, if_pos (Nat.lt_succ_self i), if_neg (show ¬ i < a.length - b.length by omega), ← HJ.out]
          · rw [if_neg h1]
            by_cases h2 : i < k
            · rw [if_pos h2, if_pos (show i < k + 1 by omega)]
            · rw [if_neg h2, if_neg (show ¬ i < k + 1 by omega)]
        · exact (hb2.setCell (Nat.le_refl _) _).drew
      case measure => simp [intOf]; omega
    · obtain rfl : k = a.length := by omega
      go_wp2_with fail
      refine (newPoly_of wr fb w.heap.size 0 _ _ (sumL b a) (sumL_len b a) (by omega) (by omega) (Nat.le_refl _) HR.out.lt (Cs.of_row HR.out (by rw [sumL_len]; exact Nat.le_refl _) ?_)).mono ?_
      · intro i hi'
        rw [sumL_len] at hi'
        rw [if_pos hi']
        unfold sumL
        rw [hi_map _ _ _ hi']
      · rintro e w3 ⟨r, rfl, hpoly, hb3⟩
        go_wp2
        go_ret2
        exact ⟨r, rfl, hpoly, hb2.trans (hb3.mono hsz)⟩

set_option maxRecDepth 100000 in
theorem addP_any (w : World) (fb p q : Nat) (a b : List F) (ha : Poly w fb p a) (hb : Poly w fb q b) :
    Calls Tryz.prog 215 #[pt p, pt q] w (MkPoly w fb (addP a b)) := by
  by_cases na : hi a 0 = 0
  · have e : addP a b = b := by unfold addP; rw [if_pos na]
    rw [e]
    have PA := Lib.hid ha
    have PB := Lib.hid hb
    have NA := Lib.hid na
    have HE := Lib.hid e; clear e
    obtain ⟨ab, ao, ac, pa0, pa1, pa2, pa3, pa4, pa5, pa6, pa7⟩ := ha
    obtain ⟨bb, bo, bc, pb0, pb1, pb2, pb3, pb4, pb5, pb6, pb7⟩ := hb
    clear na pa7 pb7
    have hnp := neq95 ⟨fb, 0, none⟩
    go_enter Tryz.func215, Tryz.ntmps215
    go_wp2_with fail
    go_quiet (fail)
    go_wp2_with fail
    refine (isZero_t _ fb p a (PA.out.drewN _) NA.out).mono ?_
    rintro e w' ⟨rfl, rfl⟩
    go_wp2
    go_ret2
    exact ⟨q, rfl, PB.out.drewN _, below_dn _ _ _⟩
  · by_cases nb : hi b 0 = 0
    · have e : addP a b = a := by unfold addP; rw [if_neg na, if_pos nb]
      rw [e]
      have PA := Lib.hid ha
      have PB := Lib.hid hb
      have NA := Lib.hid na
      have NB := Lib.hid nb
      have HE := Lib.hid e; clear e
      obtain ⟨ab, ao, ac, pa0, pa1, pa2, pa3, pa4, pa5, pa6, pa7⟩ := ha
      obtain ⟨bb, bo, bc, pb0, pb1, pb2, pb3, pb4, pb5, pb6, pb7⟩ := hb
      clear na nb pa7 pb7
      have hnp := neq95 ⟨fb, 0, none⟩
      go_enter Tryz.func215, Tryz.ntmps215
      go_wp2_with fail
      go_quiet (fail)
      go_wp2_with fail
      refine (isZero_f _ fb p a (PA.out.drewN _) NA.out).mono ?_
      rintro e w' ⟨rfl, rfl⟩
      go_wp2_with fail
      refine (isZero_t _ fb q b (PB.out.drewN _) NB.out).mono ?_
      rintro e w' ⟨rfl, rfl⟩
      go_wp2
      go_ret2
      exact ⟨p, rfl, PA.out.drewN _, below_dn _ _ _⟩
    · by_cases hl : b.length < a.length
      · have e : addP a b = nrm (sumL b a) := by unfold addP; rw [if_neg na, if_neg nb, if_pos hl]
        rw [e]; exact addP_gt w fb p q a b ha hb na nb hl
      · have e : addP a b = nrm (sumL a b) := by unfold addP; rw [if_neg na, if_neg nb, if_neg hl]
        rw [e]; exact addP_le w fb p q a b ha hb na nb (by omega)
end Go.Proofs.YtcnallabiffemaaGreatDoor
namespace Zx

/-! blocks: the codewords of a symbol in turn -/

/-- the codewords of block j of B -/
def blk (w : List F) (B j : Nat) : List F := (List.range (w.length / B)).map fun i => hi w (i * B + j)

theorem blk_len (w : List F) (B j : Nat) : (blk w B j).length = w.length / B := by simp [blk]
theorem hi_blk (w : List F) (B j i : Nat) (h : i < w.length / B) : hi (blk w B j) i = hi w (i * B + j) := hi_map _ _ _ h

/-- the check codeword at a place behind the data -/
def tailF (data : List F) (B n t : Nat) : F := hi (chk (blk data B (t % B)) n) (t / B)
/-- all codewords -/
def wordsF (data : List F) (B n : Nat) : List F := data ++ (List.range (n * B)).map (tailF data B n)

theorem wordsF_len (data : List F) (B n : Nat) : (wordsF data B n).length = data.length + n * B := by simp [wordsF]

theorem hi_append (l m : List F) (i : Nat) : hi (l ++ m) i = if i < l.length then hi l i else hi m (i - l.length) := by
  unfold hi
  rw [List.getD_eq_getElem?_getD, List.getElem?_append]
  split <;> rw [List.getD_eq_getElem?_getD]

theorem blk_words (data : List F) (B n j k : Nat) (hB : 0 < B) (hk : data.length = k * B) (hj : j < B) :
    blk (wordsF data B n) B j = blk data B j ++ chk (blk data B j) n := by
  have hl : data.length / B = k := by rw [hk]; exact Nat.mul_div_cancel _ hB
  have hl2 : (wordsF data B n).length / B = k + n := by
    rw [wordsF_len, hk, ← Nat.add_mul]; exact Nat.mul_div_cancel _ hB
  refine hi_ext ?_ fun i hi' => ?_
  · rw [blk_len, hl2, List.length_append, blk_len, hl]; unfold chk; rw [lfr_len]
  · rw [blk_len, hl2] at hi'
    rw [hi_blk _ _ _ _ (by rw [hl2]; exact hi'), hi_append, blk_len, hl]
    unfold wordsF
    rw [hi_append]
    by_cases h : i < k
    · have h1 : i * B + j < data.length := by
        rw [hk]
        calc i * B + j < i * B + B := by omega
          _ = (i + 1) * B := by rw [Nat.add_mul, Nat.one_mul]
          _ ≤ k * B := Nat.mul_le_mul_right _ h
      rw [if_pos h1, if_pos h, hi_blk _ _ _ _ (by omega)]
    · have h1 : ¬ i * B + j < data.length := by
        rw [hk]
        have := Nat.mul_le_mul_right B (Nat.le_of_not_lt h)
        omega
      have h2 : i * B + j - data.length = (i - k) * B + j := by
        rw [hk, Nat.sub_mul]
        have := Nat.mul_le_mul_right B (Nat.le_of_not_lt h)
        omega
      have h3 : (i - k) * B + j < n * B := by
        calc (i - k) * B + j < (i - k) * B + B := by omega
          _ = (i - k + 1) * B := by rw [Nat.add_mul, Nat.one_mul]
          _ ≤ n * B := Nat.mul_le_mul_right _ (by omega)
      rw [if_neg h1, if_neg h, h2, hi_map _ _ _ h3]
      unfold tailF
      rw [Nat.mul_comm, Nat.mul_add_mod, Nat.mod_eq_of_lt hj, Nat.mul_add_div hB, Nat.div_eq_of_lt hj, Nat.add_zero]

/-- a block of all codewords is a code word -/
theorem blk_code (data : List F) (B n j k : Nat) (hB : 0 < B) (hk : data.length = k * B) (hj : j < B) (i : Nat) (h1 : 1 ≤ i) (h2 : i ≤ n) :
    hrn (al i) (blk (wordsF data B n) B j) = 0 := by
  rw [blk_words data B n j k hB hk hj]; exact chk_code _ _ _ h1 h2

/-! how many errors -/
theorem errs_len (X E : Nat → F) (k : Nat) : (errs X E (k + 1)).length = (errs X E k).length + (if E k = 0 then 0 else 1) := by
  show (if E k = 0 then errs X E k else (X k, E k) :: errs X E k).length = _
  split <;> simp

theorem er_set (r c : List F) (p : Nat) (a : F) : (er (r.set p a) c).length ≤ (er r c).length + 1 := by
  unfold er
  rw [List.length_set]
  have h1 : ∀ k, k ≤ r.length → (errs (eX r.length) (eE (r.set p a) c) k).length ≤ (errs (eX r.length) (eE r c) k).length + (if p < k then 1 else 0) := by
    intro k hk
    induction k with
    | zero => exact Nat.le_add_right _ _
    | succ k ih =>
      have ih' := ih (by omega)
      rw [errs_len, errs_len]
      by_cases hkp : p = k
      · subst hkp
        rw [if_neg (Nat.lt_irrefl p)] at ih'
        rw [if_pos (Nat.lt_succ_self p)]
        split <;> split <;> omega
      · have e : eE (r.set p a) c k = eE r c k := by unfold eE; rw [hi_set _ _ _ _ (by omega), if_neg hkp]
        rw [e]
        by_cases h2 : p < k
        · rw [if_pos h2] at ih'; rw [if_pos (by omega : p < k + 1)]; omega
        · rw [if_neg h2] at ih'; omega
  have := h1 r.length (Nat.le_refl _)
  split at this <;> omega

theorem er_self (c : List F) : er c c = [] := by
  unfold er
  have : ∀ k, errs (eX c.length) (eE c c) k = [] := by
    intro k
    induction k with
    | zero => rfl
    | succ k ih => show (if eE c c k = 0 then errs _ _ k else _) = []; rw [if_pos (show eE c c k = 0 from add_self _), ih]
  exact this _

/-- a change at a place changes its own block alone, at one place -/
theorem blk_set (w : List F) (B p b : Nat) (a : F) (hB : 0 < B) (hb : b < B) :
    blk (w.set p a) B b = if p % B = b then (blk w B b).set (p / B) a else blk w B b := by
  have hl : (blk (w.set p a) B b).length = w.length / B := by rw [blk_len, List.length_set]
  have hdm := Nat.div_add_mod p B
  have hle := Nat.div_mul_le_self w.length B
  refine hi_ext ?_ fun i hi' => ?_
  · rw [hl]; split
    · rw [List.length_set, blk_len]
    · rw [blk_len]
  · rw [hl] at hi'
    have hlt : i * B + b < w.length := by
      calc i * B + b < i * B + B := by omega
        _ = (i + 1) * B := by rw [Nat.add_mul, Nat.one_mul]
        _ ≤ w.length / B * B := Nat.mul_le_mul_right _ hi'
        _ ≤ w.length := hle
    rw [hi_blk _ _ _ _ (by rw [List.length_set]; exact hi'), hi_set _ _ _ _ hlt]
    by_cases h : p % B = b
    · rw [if_pos h, hi_set _ _ _ _ (by rw [blk_len]; exact hi'), hi_blk _ _ _ _ hi']
      by_cases h2 : p / B = i
      · rw [if_pos h2, if_pos (by rw [← h2, ← h, Nat.mul_comm]; exact hdm.symm)]
      · rw [if_neg h2, if_neg]
        intro h3
        refine h2 ?_
        rw [h3, Nat.mul_comm, Nat.mul_add_div hB, Nat.div_eq_of_lt hb, Nat.add_zero]
    · rw [if_neg h, hi_blk _ _ _ _ hi', if_neg]
      intro h3
      refine h ?_
      rw [h3, Nat.mul_comm, Nat.mul_add_mod, Nat.mod_eq_of_lt hb]

/-- at most so many codewords of each block are changed -/
def Hurt (w out : List F) (B : Nat) (hit : Nat → Nat) : Prop := out.length = w.length ∧ ∀ b, b < B → (er (blk out B b) (blk w B b)).length ≤ hit b

theorem Hurt.refl (w : List F) (B : Nat) : Hurt w w B (fun _ => 0) := ⟨rfl, fun b _ => by rw [er_self]; exact Nat.le_refl _⟩

theorem Hurt.step {w out : List F} {B : Nat} {hit : Nat → Nat} (h : Hurt w out B hit) (hB : 0 < B) (p : Nat) (a : F) :
    Hurt w (out.set p a) B (fun b => hit b + if p % B = b then 1 else 0) := by
  refine ⟨by rw [List.length_set]; exact h.1, fun b hb => ?_⟩
  rw [blk_set _ _ _ _ _ hB hb]
  have := h.2 b hb
  show _ ≤ hit b + (if p % B = b then 1 else 0)
  split
  · have h2 := er_set (blk out B b) (blk w B b) (p / B) a; omega
  · omega

end Zx
namespace Go.Proofs.YtcnallabiffemaaGreatDoor
open Go.RowKit (wrap32 wrap64 intOf Hid Below)
open Zx

/-- the field behind its pointer, with its two constants -/
structure Fld (w : World) (fb : Nat) : Prop where
  tab : ∃ eb lb zb ob, FldT w fb eb lb ∧ w.cell? ⟨fb, 2, none⟩ = some (pt zb) ∧ w.cell? ⟨fb, 3, none⟩ = some (pt ob) ∧ Poly w fb zb [0] ∧ Poly w fb ob [1] ∧ eb < w.heap.size ∧ lb < w.heap.size
  lt : fb < w.heap.size

theorem FldT.below {w w' : World} {fb eb lb : Nat} (h : FldT w fb eb lb) (h1 : fb < w.heap.size) (h2 : eb < w.heap.size) (h3 : lb < w.heap.size) {B : Nat} (hB : w.heap.size ≤ B) (hw : Below B w w') : FldT w' fb eb lb :=
  ⟨(hw.cell (p := ⟨fb, 0, none⟩) (by show fb < B; omega)).trans h.c0, (hw.cell (p := ⟨fb, 1, none⟩) (by show fb < B; omega)).trans h.c1, (hw.cell (p := ⟨fb, 4, none⟩) (by show fb < B; omega)).trans h.c4, (hw.cell (p := ⟨fb, 6, none⟩) (by show fb < B; omega)).trans h.c6,
   fun i hi' => (hw.cell (p := ⟨eb, i, none⟩) (by show eb < B; omega)).trans (h.te i hi'), fun i hi' => (hw.cell (p := ⟨lb, i, none⟩) (by show lb < B; omega)).trans (h.tl i hi')⟩

theorem Fld.below {w w' : World} {fb : Nat} (h : Fld w fb) (hw : Below w.heap.size w w') : Fld w' fb := by
  obtain ⟨⟨eb, lb, zb, ob, h1, h2, h3, h4, h5, h6, h7⟩, h8⟩ := h
  exact ⟨⟨eb, lb, zb, ob, h1.below h8 h6 h7 (Nat.le_refl _) hw, (hw.cell (p := ⟨fb, 2, none⟩) h8).trans h2, (hw.cell (p := ⟨fb, 3, none⟩) h8).trans h3, h4.below hw, h5.below hw,
    Nat.lt_of_lt_of_le h6 hw.size, Nat.lt_of_lt_of_le h7 hw.size⟩, Nat.lt_of_lt_of_le h8 hw.size⟩

theorem mulF (a b : F) (fb : Nat) (w : World) (h : Fld w fb) : Calls Tryz.prog 209 #[pt fb, fv a, fv b] w fun e w' => e = .returned (fv (a * b)) ∧ ∃ n, w' = w.drewN n := by
  obtain ⟨⟨eb, lb, _, _, h1, _⟩, _⟩ := h
  exact mul_any a b fb eb lb w h1

/-- one more cell of a row -/
theorem set_if {α : Type} (f : Nat → α) (k i : Nat) (z : α) {v : α} (_h : True) (hv : v = f k := by rfl) : (if i = k then v else if i < k then f i else z) = if i < k + 1 then f i else z := by
  by_cases h1 : i = k
  · subst h1; rw [if_pos rfl, if_pos (Nat.lt_succ_self i), hv]
  · rw [if_neg h1]
    by_cases h2 : i < k
    · rw [if_pos h2, if_pos (by omega)]
    · rw [if_neg h2, if_neg (by omega)]

set_option maxRecDepth 100000 in
theorem mulMono_nz (w : World) (fb p : Nat) (l : List F) (d : Nat) (c : F) (hf : Fld w fb) (hl : Poly w fb p l) (hc : c ≠ 0) (hd : d ≤ 1000) (hll : l.length ≤ 1000) :
    Calls Tryz.prog 216 #[pt p, .int .i64 d, fv c] w (MkPoly w fb (nrm (l.map (· * c) ++ List.replicate d 0))) := by
  have HF := Lib.hid hf; clear hf
  obtain ⟨ab, ao, ac, pa0, pa1, pa2, pa3, pa4, pa5, pa6, pa7⟩ := hl
  have HA := Lib.hid pa7; clear pa7
  have zc := beq_f0 _ hc
  have hd0 : decide ((d : Int) < 0) = false := by simp
  have HC := Lib.hid hc; clear hc
  have hmk := run_make_row' (P := Tryz.prog) 22 3 (.int .i64 0) 8 Tryz.underlying22 info3 rfl .i64 .i64 (l.length + d) (by omega) (by omega)
  have ec : ((l.length + d : Nat) : Int) = (l.length : Int) + (d : Int) := by omega
  rw [ec] at hmk
  clear ec
  go_enter Tryz.func216, Tryz.ntmps216
  go_wp2
  go_loopw [10] (fun i wr => ∃ k : Nat, k ≤ l.length ∧ i = .int .i64 k ∧ wr.rowIs w.heap.size 3 (l.length + d) (fun j => if j < k then fv (hi l j * c) else .int .i64 0) ∧ Below w.heap.size w wr)
    (fun i _ => l.length - (intOf i).toNat)
  case atStart =>
    refine ⟨0, Nat.zero_le _, rfl, (World.rowIs_made _ _ _ _).congr fun i _ => ?_, (Below.refl _ _).alloc (Nat.le_refl _) _⟩
    rw [if_neg (Nat.not_lt_zero i)]
  case round =>
    obtain ⟨k, hk2, rfl, hr, hb2⟩ := hrel
    have HR := Lib.hid hr; clear hr
    have fp0 := (hb2.cell (p := ⟨p, 0, none⟩) pa5).trans pa0
    have fp1 := (hb2.cell (p := ⟨p, 1, none⟩) pa5).trans pa1
    have hsz := hb2.size
    by_cases hlt : k < l.length
    · have fa : wr.cell? ⟨ab, ao + k, none⟩ = some (fv (hi l k)) := (hb2.cell (p := ⟨ab, _, none⟩) pa6).trans (HA.out _ hlt)
      have fc : wr.cell? ⟨w.heap.size, k, none⟩ = some (.int .i64 0) := by rw [HR.out.cell (by omega), if_neg (Nat.lt_irrefl k)]
      have ff := HR.out.frozen k
      have FW := Lib.hid (HF.out.below hb2)
      go_wp2_with fail
      go_region_with (go_at_call 209; refine (mulF _ _ fb _ (FW.out.below (below_dn _ _ _))).mono ?_; rintro e w' ⟨rfl, nn, rfl⟩)
      all_goals go_wp2
      all_goals go_roundw
      all_goals first
        | exact ⟨k + 1, by omega, by go_num, row_step HR.out hb2 (Nat.le_refl _) _ _ _ (fun i _ => set_if (fun j => fv (hi l j * c)) k i _ trivial)⟩
        | (simp [intOf]; omega)
    · obtain rfl : k = l.length := by omega
      go_wp2_with fail
      refine (newPoly_of wr fb w.heap.size 0 _ _ (l.map (· * c) ++ List.replicate d 0) (by simp) (by omega) (by omega) (Nat.le_refl _) HR.out.lt (Cs.of_row HR.out (by simp) ?_)).mono ?_
      · intro i hi'
        rw [hi_append, List.length_map]
        by_cases h : i < l.length
        · rw [if_pos h, if_pos h]
          unfold hi
          rw [List.getD_eq_getElem?_getD, List.getD_eq_getElem?_getD, List.getElem?_map, List.getElem?_eq_getElem h]; rfl
        · rw [if_neg h, if_neg h]
          unfold hi
          rw [List.getD_eq_getElem?_getD, List.getElem?_replicate]; split <;> rfl
      · rintro e w3 ⟨r, rfl, hpoly, hb3⟩
        go_wp2
        go_ret2
        exact ⟨r, rfl, hpoly, hb2.trans (hb3.mono hsz)⟩
end Go.Proofs.YtcnallabiffemaaGreatDoor
namespace Go.Proofs.YtcnallabiffemaaGreatDoor
open Go.RowKit (wrap32 wrap64 intOf Hid Below)
open Zx

theorem mulMono_z (w : World) (fb p : Nat) (l : List F) (d : Nat) (hf : Fld w fb) (hl : Poly w fb p l) :
    Calls Tryz.prog 216 #[pt p, .int .i64 d, fv 0] w (MkPoly w fb [0]) := by
  obtain ⟨⟨eb, lb, zb, ob, h1, h2, h3, h4, h5, h6, h7⟩, h8⟩ := hf
  have H4 := Lib.hid h4
  clear h1 h4 h5
  obtain ⟨ab, ao, ac, pa0, pa1, pa2, pa3, pa4, pa5, pa6, pa7⟩ := hl
  clear pa7
  have hd0 : decide ((d : Int) < 0) = false := by simp
  go_enter Tryz.func216, Tryz.ntmps216
  go_wp2
  go_ret2
  exact ⟨zb, rfl, H4.out, Below.refl _ _⟩

theorem mulMono_any (w : World) (fb p : Nat) (l : List F) (d : Nat) (c : F) (hf : Fld w fb) (hl : Poly w fb p l) (hd : d ≤ 1000) (hll : l.length ≤ 1000) :
    Calls Tryz.prog 216 #[pt p, .int .i64 d, fv c] w (MkPoly w fb (mulMono l d c)) := by
  unfold mulMono
  by_cases hc : c = 0
  · rw [if_pos hc]; subst hc; exact mulMono_z w fb p l d hf hl
  · rw [if_neg hc]; exact mulMono_nz w fb p l d c hf hl hc hd hll

/-- BuildMonomial -/
theorem mono_z (w : World) (fb d : Nat) (hf : Fld w fb) : Calls Tryz.prog 167 #[pt fb, .int .i64 d, fv 0] w (MkPoly w fb [0]) := by
  obtain ⟨⟨eb, lb, zb, ob, h1, h2, h3, h4, h5, h6, h7⟩, h8⟩ := hf
  have H4 := Lib.hid h4
  clear h1 h4 h5
  have hd0 : decide ((d : Int) < 0) = false := by simp
  go_enter Tryz.func167, Tryz.ntmps167
  go_wp2
  go_ret2
  exact ⟨zb, rfl, H4.out, Below.refl _ _⟩

theorem mono_nz (w : World) (fb d : Nat) (c : F) (hc : c ≠ 0) (hd : d ≤ 1000) : Calls Tryz.prog 167 #[pt fb, .int .i64 d, fv c] w (MkPoly w fb (nrm (c :: List.replicate d 0))) := by
  have zc := beq_f0 _ hc
  have hd0 : decide ((d : Int) < 0) = false := by simp
  clear hc
  have hmk := run_make_row' (P := Tryz.prog) 22 3 (.int .i64 0) 8 Tryz.underlying22 info3 rfl .i64 .i64 (d + 1) (by omega) (by omega)
  have ec : ((d + 1 : Nat) : Int) = (d : Int) + 1 := by omega
  rw [ec] at hmk
  clear ec
  have hrow := World.rowIs_made w (.int .i64 0) (d + 1) 3
  have fc := hrow.cell (i := 0) (by omega)
  have ff := hrow.frozen 0
  have HR := Lib.hid hrow; clear hrow
  go_enter Tryz.func167, Tryz.ntmps167
  go_wp2_with fail
  refine (newPoly_of _ fb w.heap.size 0 _ _ (c :: List.replicate d 0) (by simp) (by omega) (by omega) (Nat.le_refl _) (by simp) (Cs.of_row (t := 3) (n := d + 1) (f := fun j => if j = 0 then fv c else .int .i64 0) ?_ (by simp) ?_)).mono ?_
  · exact rowIs_made_set _ _ _ _ _ _
  · intro i hi'
    cases i with
    | zero => rfl
    | succ i =>
      show Value.int .i64 0 = fv (hi (c :: List.replicate d 0) (i + 1))
      have : hi (c :: List.replicate d 0) (i + 1) = 0 := by
        unfold hi; rw [List.getD_eq_getElem?_getD, List.getElem?_cons_succ, List.getElem?_replicate]; split <;> rfl
      rw [this]; rfl
  · rintro e w3 ⟨r, rfl, hpoly, hb3⟩
    go_wp2
    go_ret2
    exact ⟨r, rfl, hpoly, ((Below.refl _ _).alloc (Nat.le_refl _) _).trans (hb3.mono (by simp))⟩

theorem mono_any (w : World) (fb d : Nat) (c : F) (hf : Fld w fb) (hd : d ≤ 1000) : Calls Tryz.prog 167 #[pt fb, .int .i64 d, fv c] w (MkPoly w fb (monoP d c)) := by
  unfold monoP
  by_cases hc : c = 0
  · rw [if_pos hc]; subst hc; exact mono_z w fb d hf
  · rw [if_neg hc]; exact mono_nz w fb d c hc hd

/-- MultiplyBy -/
def MkP1 (w : World) (fb : Nat) (l : List F) (e : Ending) (w' : World) : Prop := ∃ p, e = .returned (pt p) ∧ Poly w' fb p l ∧ Below w.heap.size w w'

theorem mulS_z (w : World) (fb p : Nat) (l : List F) (hf : Fld w fb) (hl : Poly w fb p l) :
    Calls Tryz.prog 218 #[pt p, fv 0] w (MkP1 w fb [0]) := by
  obtain ⟨⟨eb, lb, zb, ob, h1, h2, h3, h4, h5, h6, h7⟩, h8⟩ := hf
  have H4 := Lib.hid h4
  clear h1 h4 h5
  obtain ⟨ab, ao, ac, pa0, pa1, pa2, pa3, pa4, pa5, pa6, pa7⟩ := hl
  clear pa7
  go_enter Tryz.func218, Tryz.ntmps218
  go_wp2
  go_ret
  exact ⟨zb, rfl, H4.out, Below.refl _ _⟩

theorem mulS_o (w : World) (fb p : Nat) (l : List F) (hl : Poly w fb p l) :
    Calls Tryz.prog 218 #[pt p, fv 1] w (MkP1 w fb l) := by
  have H4 := Lib.hid hl
  clear hl
  go_enter Tryz.func218, Tryz.ntmps218
  go_wp2
  go_ret
  exact ⟨p, rfl, H4.out, Below.refl _ _⟩

set_option maxRecDepth 100000 in
theorem mulS_nz (w : World) (fb p : Nat) (l : List F) (c : F) (hf : Fld w fb) (hl : Poly w fb p l) (hc : c ≠ 0) (hc1 : c ≠ 1) (hll : l.length ≤ 1000) :
    Calls Tryz.prog 218 #[pt p, fv c] w (MkP1 w fb (nrm (l.map (· * c)))) := by
  have HF := Lib.hid hf; clear hf
  obtain ⟨ab, ao, ac, pa0, pa1, pa2, pa3, pa4, pa5, pa6, pa7⟩ := hl
  have HA := Lib.hid pa7; clear pa7
  have zc := beq_f0 _ hc
  have zc1 : ((c.v : Int) == 1) = false := int_bf (fun h => hc1 (F.ext (by show c.v = 1; omega)))
  have HC := Lib.hid hc; clear hc hc1
  have hmk := run_make_row' (P := Tryz.prog) 22 3 (.int .i64 0) 8 Tryz.underlying22 info3 rfl .i64 .i64 l.length (by omega) (by omega)
  go_enter Tryz.func218, Tryz.ntmps218
  go_wp2
  go_loopw [7] (fun i wr => ∃ k : Nat, k ≤ l.length ∧ i = .int .i64 k ∧ wr.rowIs w.heap.size 3 l.length (fun j => if j < k then fv (hi l j * c) else .int .i64 0) ∧ Below w.heap.size w wr)
    (fun i _ => l.length - (intOf i).toNat)
  case atStart =>
    refine ⟨0, Nat.zero_le _, rfl, (World.rowIs_made _ _ _ _).congr fun i _ => ?_, (Below.refl _ _).alloc (Nat.le_refl _) _⟩
    rw [if_neg (Nat.not_lt_zero i)]
  case round =>
    obtain ⟨k, hk2, rfl, hr, hb2⟩ := hrel
    have HR := Lib.hid hr; clear hr
    have fp0 := (hb2.cell (p := ⟨p, 0, none⟩) pa5).trans pa0
    have fp1 := (hb2.cell (p := ⟨p, 1, none⟩) pa5).trans pa1
    have hsz := hb2.size
    by_cases hlt : k < l.length
    · have fa : wr.cell? ⟨ab, ao + k, none⟩ = some (fv (hi l k)) := (hb2.cell (p := ⟨ab, _, none⟩) pa6).trans (HA.out _ hlt)
      have fc : wr.cell? ⟨w.heap.size, k, none⟩ = some (.int .i64 0) := by rw [HR.out.cell (by omega), if_neg (Nat.lt_irrefl k)]
      have ff := HR.out.frozen k
      have FW := Lib.hid (HF.out.below hb2)
      go_wp2_with fail
      go_region_with (go_at_call 209; refine (mulF _ _ fb _ (FW.out.below (below_dn _ _ _))).mono ?_; rintro e w' ⟨rfl, nn, rfl⟩)
      all_goals go_wp2
      all_goals go_roundw
      all_goals first
        | exact ⟨k + 1, by omega, by go_num, row_step HR.out hb2 (Nat.le_refl _) _ _ _ (fun i _ => set_if (fun j => fv (hi l j * c)) k i _ trivial)⟩
        | (simp [intOf]; omega)
    · obtain rfl : k = l.length := by omega
      go_wp2_with fail
      refine (newPoly_of wr fb w.heap.size 0 _ _ (l.map (· * c)) (by simp) (by omega) (by omega) (Nat.le_refl _) HR.out.lt (Cs.of_row HR.out (by simp) ?_)).mono ?_
      · intro i hi'
        rw [List.length_map] at hi'
        rw [if_pos hi']
        unfold hi
        rw [List.getD_eq_getElem?_getD, List.getD_eq_getElem?_getD, List.getElem?_map, List.getElem?_eq_getElem hi']; rfl
      · rintro e w3 ⟨r, rfl, hpoly, hb3⟩
        go_wp2
        go_ret
        exact ⟨r, rfl, hpoly, hb2.trans (hb3.mono hsz)⟩

theorem mulS_any (w : World) (fb p : Nat) (l : List F) (c : F) (hf : Fld w fb) (hl : Poly w fb p l) (hll : l.length ≤ 1000) :
    Calls Tryz.prog 218 #[pt p, fv c] w (MkP1 w fb (mulS l c)) := by
  unfold mulS
  by_cases hc : c = 0
  · rw [if_pos hc]; subst hc; exact mulS_z w fb p l hf hl
  · rw [if_neg hc]
    by_cases h1 : c = 1
    · rw [if_pos h1]; subst h1; exact mulS_o w fb p l hl
    · rw [if_neg h1]; exact mulS_nz w fb p l c hf hl hc h1 hll
end Go.Proofs.YtcnallabiffemaaGreatDoor
namespace Go.Proofs.YtcnallabiffemaaGreatDoor
open Go.RowKit (wrap32 wrap64 intOf Hid Below)
open Zx

theorem Fld.dn {w : World} {fb : Nat} (h : Fld w fb) (n : Nat) : Fld (w.drewN n) fb := h.below (below_dn _ _ _)

/-- GetCoefficient -/
theorem getCo (w : World) (fb p : Nat) (l : List F) (d : Nat) (hl : Poly w fb p l) (hd : d < l.length) :
    Calls Tryz.prog 208 #[pt p, .int .i64 d] w fun e w' => e = .returned (fv (co l d)) ∧ ∃ n, w' = w.drewN n := by
  have e0 : co l d = hi l (l.length - 1 - d) := by rw [co_get, if_pos hd]
  rw [e0]
  obtain ⟨ab, ao, ac, pa0, pa1, pa2, pa3, pa4, pa5, pa6, pa7⟩ := hl
  have fa := pa7 (l.length - 1 - d) (by omega)
  have E0 := Lib.hid e0; clear e0 pa7
  have e3 : ((l.length : Int) - 1 - (d : Int)).toNat = l.length - 1 - d := by omega
  have g1 : (0 : Int) ≤ (l.length : Int) - 1 - (d : Int) := by omega
  have g2 : (l.length : Int) - 1 - (d : Int) < (l.length : Int) := by omega
  go_enter Tryz.func208, Tryz.ntmps208
  go_wp2_with fail
  go_quiet (fail)
  go_wp2
  go_ret
  exact ⟨rfl, _, rfl⟩

theorem hrn_zero (l : List F) (h : 0 < l.length) : hrn 0 l = co l 0 := by
  have hne : l ≠ [] := fun h0 => by rw [h0] at h; simp at h
  rw [← List.dropLast_concat_getLast hne, hrn_snoc, zero_mul, zero_add, co_snoc]
  simp [padd, psc, pone, psh, mul_one, add_zero]

theorem hrn_take_succ (a : F) (l : List F) (k : Nat) (h : k < l.length) : hrn a (l.take (k + 1)) = a * hrn a (l.take k) + hi l k := by
  rw [take_succ_hi l k h, hrn_snoc]

/-- EvaluateAt -/
theorem eval_z (w : World) (fb p : Nat) (l : List F) (hl : Poly w fb p l) :
    Calls Tryz.prog 164 #[pt p, fv 0] w fun e w' => e = .returned (fv (hrn 0 l)) ∧ ∃ n, w' = w.drewN n := by
  have hpos : 0 < l.length := by obtain ⟨_, _, _, _, _, _, h, _⟩ := hl; exact h
  rw [hrn_zero l hpos]
  have HL := Lib.hid hl; clear hl
  go_enter Tryz.func164, Tryz.ntmps164
  go_wp2_with fail
  refine (getCo w fb p l 0 HL.out hpos).mono ?_
  rintro e w' ⟨rfl, n, rfl⟩
  go_wp2
  go_ret
  exact ⟨rfl, _, rfl⟩

theorem eval_o (w : World) (fb p : Nat) (l : List F) (hl : Poly w fb p l) :
    Calls Tryz.prog 164 #[pt p, fv 1] w fun e w' => e = .returned (fv (hrn 1 l)) ∧ ∃ n, w' = w.drewN n := by
  obtain ⟨ab, ao, ac, pa0, pa1, pa2, pa3, pa4, pa5, pa6, pa7⟩ := hl
  have HA := Lib.hid pa7; clear pa7
  have z1 : (((1 : F).v : Int) == 0) = false := rfl
  have o1 : (((1 : F).v : Int) == 1) = true := rfl
  go_enter Tryz.func164, Tryz.ntmps164
  go_wp2
  go_loop [5, 7, 22] (fun r _ i => ∃ k : Nat, k ≤ l.length ∧ i = .int .i64 k ∧ r = fv (hrn 1 (l.take k))) (fun _ _ i => l.length - (intOf i).toNat)
  case atStart => exact ⟨0, Nat.zero_le _, rfl, rfl⟩
  case round =>
    obtain ⟨k, hk, rfl, rfl⟩ := hrel
    by_cases hlt : k < l.length
    · have fa := HA.out k hlt
      go_wp2_with (go_at_call 173; refine (xorc _ _ _).mono ?_; rintro e w' ⟨rfl, hw⟩; subst hw)
      go_round
      case rel => exact ⟨k + 1, by omega, by go_num, by rw [hrn_take_succ 1 l k hlt, one_mul]⟩
      case measure => simp [intOf]; omega
    · obtain rfl : k = l.length := by omega
      go_wp2
      go_ret
      exact ⟨by simp, 0, rfl⟩

set_option maxRecDepth 100000 in
theorem eval_n (w : World) (fb p : Nat) (l : List F) (a : F) (hf : Fld w fb) (hl : Poly w fb p l) (h0 : a ≠ 0) (h1 : a ≠ 1) :
    Calls Tryz.prog 164 #[pt p, fv a] w fun e w' => e = .returned (fv (hrn a l)) ∧ ∃ n, w' = w.drewN n := by
  have HF := Lib.hid hf; clear hf
  obtain ⟨ab, ao, ac, pa0, pa1, pa2, pa3, pa4, pa5, pa6, pa7⟩ := hl
  have HA := Lib.hid pa7
  have fa0 : w.cell? ⟨ab, ao, none⟩ = some (fv (hi l 0)) := pa7 0 pa3
  clear pa7
  have z1 := beq_f0 _ h0
  have o1 : ((a.v : Int) == 1) = false := int_bf (fun h => h1 (F.ext (by show a.v = 1; omega)))
  clear h0 h1
  go_enter Tryz.func164, Tryz.ntmps164
  go_wp2
  go_loopw [8, 10] (fun r i wr => ∃ k n : Nat, 1 ≤ k ∧ k ≤ l.length ∧ i = .int .i64 k ∧ r = fv (hrn a (l.take k)) ∧ wr = w.drewN n) (fun _ i _ => l.length - (intOf i).toNat)
  case atStart => exact ⟨1, 0, Nat.le_refl _, pa3, rfl, by rw [show (1 : Nat) = 0 + 1 from rfl, hrn_take_succ a l 0 pa3]; simp [hrn, mul_zero, zero_add], rfl⟩
  case round =>
    obtain ⟨k, n, hk1, hk, rfl, rfl, hw⟩ := hrel
    have q0 : wr.cell? ⟨p, 0, none⟩ = some (pt fb) := by rw [hw]; exact pa0
    have q1 : wr.cell? ⟨p, 1, none⟩ = some (.slice (some ⟨ab, ao, none⟩) l.length ac) := by rw [hw]; exact pa1
    by_cases hlt : k < l.length
    · have fa : wr.cell? ⟨ab, ao + k, none⟩ = some (fv (hi l k)) := by rw [hw]; exact HA.out k hlt
      have FW : Hid (Fld wr fb) := by rw [hw]; exact HF.out.dn n
      have HW := Lib.hid hw; clear hw
      go_wp2_with fail
      go_quiet (first | ((go_at_call 209; exact Calls.quiet_of (mulF _ _ fb _ (FW.out.dn _)))) | ((go_at_call 173; exact Calls.quiet_of_same (xorc _ _ _))))
      go_wp2
      go_roundw
      case rel => exact ⟨k + 1, n + nq, by omega, by omega, by go_num, by rw [hrn_take_succ a l k hlt], by rw [HW.out, World.drewN_drewN]⟩
      case measure => simp [intOf]; omega
    · obtain rfl : k = l.length := by omega
      have HW := Lib.hid hw; clear hw
      go_wp2
      go_ret
      exact ⟨by simp, n, HW.out⟩

theorem evalF (w : World) (fb p : Nat) (l : List F) (a : F) (hf : Fld w fb) (hl : Poly w fb p l) :
    Calls Tryz.prog 164 #[pt p, fv a] w fun e w' => e = .returned (fv (hrn a l)) ∧ ∃ n, w' = w.drewN n := by
  by_cases h0 : a = 0
  · subst h0; exact eval_z w fb p l hl
  · by_cases h1 : a = 1
    · subst h1; exact eval_o w fb p l hl
    · exact eval_n w fb p l a hf hl h0 h1
end Go.Proofs.YtcnallabiffemaaGreatDoor
/- A region that draws its order, whose operations read and call quietly (they may draw) but for a tail in a forced order (a store): one walk serves every order. -/
namespace Go.Proofs.YtcnallabiffemaaGreatDoor

section
variable {P : Program} {md : Region.Mode} {ops : Array Oper} {C : World → Prop}

/-- whatever order is picked for the operations below n; behind them L -/
def wpHd (P : Program) (md : Region.Mode) (ops : Array Oper) (C : World → Prop) (n : Nat) (L : Array Bool → Act → Prop) : Nat → Array Bool → Act → Prop
  | 0, s, a => L s a
  | f + 1, s, a => Region.ready md ops s ≠ [] ∧ ∀ i ∈ Region.ready md ops s, i < n ∧ qOp P ops C i (wpHd P md ops C n L f (s.setIfInBounds i true)) a

theorem wpAny_hd {n g : Nat} {L : Array Bool → Act → Prop} {Q : Exit → Act → World → Prop} (hL : ∀ s a w, C w → L s a → wpAny P md ops Q g s a w) :
    ∀ (f : Nat) (s : Array Bool) (a : Act) (w : World), C w → wpHd P md ops C n L f s a → wpAny P md ops Q (f + g) s a w
  | 0, s, a, w, hw, h => by rw [Nat.zero_add]; exact hL _ _ _ hw h
  | f + 1, s, a, w, hw, h => by
    rw [show f + 1 + g = (f + g) + 1 by omega]
    exact ⟨fun h0 => absurd h0 h.1, fun i hi => wpOp_of_qOp hw (fun a' w' hw' h' => wpAny_hd hL f _ a' w' hw' h') (h.2 i hi).2⟩

theorem wpHd_first {n i : Nat} {oi : Oper} {v : Value} {L : Array Bool → Act → Prop} (hi : ops[i]? = some oi) (hsel : ∀ (j : Nat) (o : Oper) cs b, ops[j]? = some o → o.op ≠ .select cs b)
    (hs : Region.sinkB md ops n = true) (hc : Region.chainB md ops n = true) (hn : n < ops.size) (hin : i < n) (hdone : ∀ s a, L s a → ∀ j ∈ Region.ready md ops s, n ≤ j) :
    ∀ (f : Nat) (s : Array Bool) (a : Act), HeadInv md ops n s →
      (∀ j oj, ops[j]? = some oj → j ≠ i → s.getD j true = false → (∀ e ∈ oj.after, Region.binds md e = true → e.on ≠ i) → oi.apart ops oj = true) →
      i ∈ Region.ready md ops s → YieldsIn P ops C oi v a → wpHd P md ops C n L f (s.setIfInBounds i true) (a.put oi.dst v) → wpHd P md ops C n L (f + 1) s a := by
  intro f
  induction f with
  | zero =>
    intro s a inv _ hr hy H
    have hlow : ∀ j ∈ Region.ready md ops s, j < n := fun j hj => (Nat.lt_or_ge j n).resolve_right fun h => tail_waits hs hc hn inv _ i rfl hin (mem_ready.1 hr).1 j h hj
    refine ⟨fun h => (by rw [h] at hr; cases hr), fun j hj => ⟨hlow j hj, ?_⟩⟩
    by_cases hji : j = i
    · subst hji; exact hy.qOp hi H
    · have h1 := hdone _ _ H j (ready_mono hj hji)
      have h2 := hlow j hj
      omega
  | succ f ih =>
    intro s a inv hfree hr hy H
    have hlow : ∀ j ∈ Region.ready md ops s, j < n := fun j hj => (Nat.lt_or_ge j n).resolve_right fun h => tail_waits hs hc hn inv _ i rfl hin (mem_ready.1 hr).1 j h hj
    refine ⟨fun h => (by rw [h] at hr; cases hr), fun j hj => ⟨hlow j hj, ?_⟩⟩
    by_cases hji : j = i
    · subst hji; exact hy.qOp hi H
    · obtain ⟨hjun, oj, hoj, hall⟩ := mem_ready.1 hj
      have hnot : ∀ e ∈ oj.after, Region.binds md e = true → e.on ≠ i := fun e he hb heq => by
        have h1 := hall e he hb
        rw [heq, getD_both (mem_ready.1 hr).1] at h1
        cases h1
      have h2 := qOp_put hoj (hfree j oj hoj hji hjun hnot) (fun cs b => hsel i oi cs b hi) (fun cs b => hsel j oj cs b hoj) hy (H.2 j (ready_mono hj hji)).2
      refine qOp_mono (fun a' h3 => ih (s.setIfInBounds j true) a' (inv.set hj (hlow j hj)) (fun k ok hk hki hun hno => hfree k ok hk hki ?_ hno) (ready_mono hr (Ne.symm hji)) h3.1 ?_) h2
      · by_cases hjk : j = k
        · subst hjk; exact hjun
        · rwa [getD_set_ne true hjk] at hun
      · rw [Array.setIfInBounds_comm _ _ hji]
        exact h3.2

theorem wpHd_lex {n g : Nat} {Lq : Act → Prop} (hsel : Region.noSelect ops = true) (hs : Region.sinkB md ops n = true) (hc : Region.chainB md ops n = true) (hn : n < ops.size) :
    ∀ (l : List Oper) (k : Nat) (s : Array Bool) (a : Act), (∀ j, j < l.length → l[j]? = ops[k + j]?) → k + l.length = n → HeadInv md ops n s →
    Region.lexHead md ops g l.length k s = true → wpQuiet P ops C Lq l a → wpHd P md ops C n (fun s' a' => Region.seqB md ops g n s' = true ∧ Lq a') l.length s a
  | [], k, s, a, _, hk, _, hB, h => by
    obtain rfl : k = n := by simpa using hk
    exact ⟨by simpa [Region.lexHead] using hB, h⟩
  | o :: l, k, s, a, hl, hk, inv, hB, h => by
    have h0 : ops[k]? = some o := by simpa using (hl 0 (by simp)).symm
    simp only [List.length_cons, Region.lexHead, Bool.and_eq_true] at hB
    obtain ⟨⟨hr, hf⟩, hB'⟩ := hB
    have hkn : k < n := by simp only [List.length_cons] at hk; omega
    have hr' : k ∈ Region.ready md ops s := by simpa using hr
    have hst : qOp P ops C k (wpQuiet P ops C Lq l) a := by unfold qOp; simp only [h0]; exact h
    obtain ⟨v, hy, hK⟩ := yieldsIn_of_qOp h0 hst
    exact wpHd_first h0 (Region.noSelect_spec hsel) hs hc hn hkn (fun s' a' hL => seqB_ready hL.1) l.length s a inv (Region.free_spec h0 hf) hr' hy
      (wpHd_lex hsel hs hc hn l (k + 1) _ _ (fun j hj => by have := hl (j + 1) (by simp; omega); simpa [Nat.add_assoc, Nat.add_comm 1 j] using this) (by simp only [List.length_cons] at hk; omega) (inv.set hr' hkn) hB' hK)

theorem wp_region_quiet_tail {id : Nat} {Q : Exit → Act → World → Prop} {a : Act} {w : World} {l : List Oper} (n : Nat) (hm : P.follows .mixedOrders = true) (hB : Region.lexTailB .any l.toArray n = true)
    (h : wpQuiet P l.toArray (fun w' => ∃ m, w' = w.drewN m) (fun a' => ∀ w', (∃ m, w' = w.drewN m) → wpList P l.toArray Q (l.drop n) a' w') (l.take n) a) : (Code.region id l.toArray true).wp P Q a w := by
  simp only [Region.lexTailB, Bool.and_eq_true, decide_eq_true_eq] at hB
  obtain ⟨⟨⟨⟨hsel, hn⟩, hs⟩, hc⟩, hlex⟩ := hB
  have hn' : n < l.length := by simpa using hn
  have htl : (l.take n).length = n := by simp; omega
  have hdl : (l.drop n).length = l.toArray.size - n := by simp
  have inv0 : HeadInv .any l.toArray n (Array.replicate l.toArray.size false) :=
    ⟨by simp, fun j oj _ hl => (by rw [getD_replicate_false] at hl; cases hl), fun t _ ht => getD_in (by simpa using ht) (getD_replicate_false _ _)⟩
  have H := wpHd_lex (md := .any) (C := fun w' => ∃ m, w' = w.drewN m) (g := l.toArray.size - n) hsel hs hc hn (l.take n) 0 _ a
    (fun j hj => by
      have hj' : j < n := by rw [htl] at hj; exact hj
      simp [hj']) (by simpa using htl) inv0 (by rw [htl]; exact hlex) h
  refine wp_region_any hm ?_
  have := wpAny_hd (Q := Q) (g := l.toArray.size - n) (fun s a' w' hw' hL => by
    have := wpAny_of_seq (md := .any) (Q' := Q) (l.drop n) n s a' w' (fun j => by simp [List.getElem?_drop]) (by rw [hdl]; exact hL.1) (hL.2 w' hw')
    rwa [hdl] at this) _ _ _ { w with drawn := w.drawn + 1 } ⟨1, rfl⟩ H
  rw [htl, show n + (l.toArray.size - n) = l.toArray.size by omega] at this
  exact this
end
end Go.Proofs.YtcnallabiffemaaGreatDoor
namespace Go.Proofs.YtcnallabiffemaaGreatDoor
open Go.RowKit (wrap32 wrap64 intOf Hid Below)
open Zx

/-- the products of the first i rows, at place k -/
def ppr (a b : List F) (i k : Nat) : F := sm i (fun x => if x ≤ k then hi a x * hi b (k - x) else 0)
/-- .. and of the first j of the next one -/
def ppj (a b : List F) (i j k : Nat) : F := ppr a b i k + (if i ≤ k ∧ k - i < j then hi a i * hi b (k - i) else 0)

theorem ppj_zero (a b : List F) (i k : Nat) : ppj a b i 0 k = ppr a b i k := by
  unfold ppj; rw [if_neg (by omega), add_zero]
theorem ppj_full (a b : List F) (i k : Nat) : ppj a b i b.length k = ppr a b (i + 1) k := by
  unfold ppj ppr
  simp only [sm]
  congr 1
  by_cases h : i ≤ k
  · rw [if_pos h]
    by_cases h2 : k - i < b.length
    · rw [if_pos ⟨h, h2⟩]
    · rw [if_neg (by omega), hi_out b _ (by omega), mul_zero]
  · rw [if_neg (by omega), if_neg h]
theorem ppj_step (a b : List F) (i j k : Nat) : (if k = i + j then ppj a b i j (i + j) + hi a i * hi b j else ppj a b i j k) = ppj a b i (j + 1) k := by
  by_cases h : k = i + j
  · subst h
    rw [if_pos rfl]
    unfold ppj
    rw [if_neg (by omega), if_pos (by omega), add_zero, Nat.add_sub_cancel_left]
  · rw [if_neg h]
    unfold ppj
    congr 1
    by_cases h2 : i ≤ k ∧ k - i < j
    · rw [if_pos h2, if_pos (by omega)]
    · rw [if_neg h2, if_neg (by omega)]
theorem ppr_conv (a b : List F) (k : Nat) : ppr a b a.length k = conv (hi a) (hi b) k := by
  unfold ppr conv
  rcases Nat.le_total a.length (k + 1) with h | h
  · rw [sm_ext _ h (fun i h1 _ => by rw [hi_out a i h1, zero_mul])]
    exact sm_congr fun i hi' => if_pos (by omega)
  · rw [sm_ext (n := k + 1) (m := a.length) _ h (fun i h1 _ => if_neg (by omega))]
    exact sm_congr fun i hi' => if_pos (by omega)

theorem xorc' (a b : F) (w : World) : Calls Tryz.prog 173 #[fv a, fv b] w fun e w' => e = .returned (fv (a + b)) ∧ w = w' :=
  (xorc a b w).mono fun _ _ h => ⟨h.1, h.2.symm⟩

set_option maxRecDepth 100000 in
set_option maxHeartbeats 1000000 in
theorem mulP_nz (w : World) (fb p q : Nat) (a b : List F) (hf : Fld w fb) (ha : Poly w fb p a) (hb : Poly w fb q b) (na : hi a 0 ≠ 0) (nb : hi b 0 ≠ 0) (la : a.length ≤ 1000) (lb : b.length ≤ 1000) :
    Calls Tryz.prog 217 #[pt p, pt q] w (MkPoly w fb (nrm (mulL a b))) := by
  have HF := Lib.hid hf; clear hf
  have PA := Lib.hid ha
  have PB := Lib.hid hb
  have NA := Lib.hid na
  have NB := Lib.hid nb
  obtain ⟨ab, ao, ac, pa0, pa1, pa2, pa3, pa4, pa5, pa6, pa7⟩ := ha
  obtain ⟨bb, bo, bc, pb0, pb1, pb2, pb3, pb4, pb5, pb6, pb7⟩ := hb
  have HA := Lib.hid pa7; clear pa7
  have HB := Lib.hid pb7; clear pb7
  clear na nb
  have hmk := run_make_row' (P := Tryz.prog) 22 3 (.int .i64 0) 8 Tryz.underlying22 info3 rfl .i64 .i64 (a.length + b.length - 1) (by omega) (by omega)
  have ec : ((a.length + b.length - 1 : Nat) : Int) = (a.length : Int) + (b.length : Int) - 1 := by omega
  rw [ec] at hmk
  clear ec
  have hnp := neq95 ⟨fb, 0, none⟩
  go_enter Tryz.func217, Tryz.ntmps217
  go_wp2_with fail
  go_quiet (fail)
  go_wp2_with fail
  refine (isZero_f _ fb p a (PA.out.drewN _) NA.out).mono ?_
  rintro e w' ⟨rfl, rfl⟩
  go_wp2_with fail
  refine (isZero_f _ fb q b (PB.out.drewN _) NB.out).mono ?_
  rintro e w' ⟨rfl, rfl⟩
  go_wp2
  go_loopw [11] (fun i wr => ∃ k : Nat, k ≤ a.length ∧ i = .int .i64 k ∧ wr.rowIs w.heap.size 3 (a.length + b.length - 1) (fun j => fv (ppr a b k j)) ∧ Below w.heap.size w wr)
    (fun i _ => a.length - (intOf i).toNat)
  case atStart =>
    exact ⟨0, Nat.zero_le _, rfl, (World.rowIs_made (w.drewN nq) _ _ _).congr fun i _ => rfl, (below_dn _ _ _).alloc (Nat.le_refl _) _⟩
  case round =>
    obtain ⟨i, hi2, rfl, hr, hb2⟩ := hrel
    have HR := Lib.hid hr; clear hr
    have fp0 := (hb2.cell (p := ⟨p, 0, none⟩) pa5).trans pa0
    have hsz := hb2.size
    by_cases hlt : i < a.length
    · have fa : wr.cell? ⟨ab, ao + i, none⟩ = some (fv (hi a i)) := (hb2.cell (p := ⟨ab, _, none⟩) pa6).trans (HA.out _ hlt)
      obtain ⟨wo, rfl⟩ : ∃ wo : World, wo = wr := ⟨_, rfl⟩
      go_wp2
      go_loopw [13] (fun j wr => ∃ k : Nat, k ≤ b.length ∧ j = .int .i64 k ∧ wr.rowIs w.heap.size 3 (a.length + b.length - 1) (fun x => fv (ppj a b i k x)) ∧ Below w.heap.size w wr)
        (fun j _ => b.length - (intOf j).toNat)
      case atStart => exact ⟨0, Nat.zero_le _, rfl, HR.out.congr fun x _ => by rw [ppj_zero], hb2⟩
      case round =>
        obtain ⟨j, hj2, rfl, hr', hb3⟩ := hrel
        have HR' := Lib.hid hr'; clear hr'
        have gp0 := (hb3.cell (p := ⟨p, 0, none⟩) pa5).trans pa0
        by_cases hjt : j < b.length
        · have gb : wr.cell? ⟨bb, bo + j, none⟩ = some (fv (hi b j)) := (hb3.cell (p := ⟨bb, _, none⟩) pb6).trans (HB.out _ hjt)
          have gc : wr.cell? ⟨w.heap.size, i + j, none⟩ = some (fv (ppj a b i j (i + j))) := HR'.out.cell (by omega)
          have gf := HR'.out.frozen (i + j)
          have FW := Lib.hid (HF.out.below hb3)
          have ew : IntKind.i64.wrap ((i : Int) + (j : Int)) = (i : Int) + (j : Int) := by rw [IntKind.wrap_i64]; omega
          have e3 : ((i : Int) + (j : Int)).toNat = i + j := by omega
          have g1 : (0 : Int) ≤ (i : Int) + (j : Int) := by omega
          have g2 : (i : Int) + (j : Int) < (a.length : Int) + (b.length : Int) - 1 := by omega
          have g3 : i + j < a.length + b.length - 1 := by omega
          go_wp2_with fail
          refine wp_region_quiet_tail 22 (by kernel_rfl) (by kernel_rfl) ?_
          simp only [List.take_succ_cons, List.take_zero, List.drop_succ_cons, List.drop_zero]
          repeat (first | go_big_quiet_step (first | ((go_at_call 209; exact Calls.quiet_of (mulF _ _ fb _ (FW.out.dn _)))) | ((go_at_call 173; exact Calls.quiet_of_same (xorc _ _ _)))) | quiet_step (first | ((go_at_call 209; exact Calls.quiet_of (mulF _ _ fb _ (FW.out.dn _)))) | ((go_at_call 173; exact Calls.quiet_of_same (xorc _ _ _)))))
          refine wpQuiet_nil ?_
          intro _ hw1q
          obtain ⟨nq, hw2q⟩ := hw1q
          subst hw2q
          go_wp2
          go_roundw
          case rel => exact ⟨j + 1, by omega, by go_num, row_step HR'.out hb3 (Nat.le_refl _) _ _ _ (fun x _ => by
            rw [← ppj_step a b i j x]; split <;> rfl)⟩
          case measure => simp [intOf]; omega
        · obtain rfl : j = b.length := by omega
          go_wp2
          go_roundw
          case rel => exact ⟨i + 1, by omega, by go_num, HR'.out.congr fun x _ => by rw [ppj_full], hb3⟩
          case measure => simp [intOf]; omega
    · obtain rfl : i = a.length := by omega
      go_wp2_with fail
      refine (newPoly_of wr fb w.heap.size 0 _ _ (mulL a b) (by simp [mulL]) (by omega) (by omega) (Nat.le_refl _) HR.out.lt (Cs.of_row HR.out (by simp [mulL]) ?_)).mono ?_
      · intro k hk
        have hk' : k < a.length + b.length - 1 := by simpa [mulL] using hk
        rw [ppr_conv]; unfold mulL; rw [hi_map _ _ _ hk']
      · rintro e w3 ⟨r, rfl, hpoly, hb3⟩
        go_wp2
        go_ret2
        exact ⟨r, rfl, hpoly, hb2.trans (hb3.mono hsz)⟩

theorem mulP_za (w : World) (fb p q : Nat) (a b : List F) (hf : Fld w fb) (ha : Poly w fb p a) (hb : Poly w fb q b) (na : hi a 0 = 0) :
    Calls Tryz.prog 217 #[pt p, pt q] w (MkPoly w fb [0]) := by
  have PA := Lib.hid ha
  have NA := Lib.hid na
  obtain ⟨ab, ao, ac, pa0, pa1, pa2, pa3, pa4, pa5, pa6, pa7⟩ := ha
  obtain ⟨bb, bo, bc, pb0, pb1, pb2, pb3, pb4, pb5, pb6, pb7⟩ := hb
  clear pa7 pb7 na
  obtain ⟨⟨eb, lb, zb, ob, h1, h2, h3, h4, h5, h6, h7⟩, h8⟩ := hf
  have H4 := Lib.hid h4
  clear h1 h4 h5
  have hnp := neq95 ⟨fb, 0, none⟩
  go_enter Tryz.func217, Tryz.ntmps217
  go_wp2_with fail
  go_quiet (fail)
  go_wp2_with fail
  refine (isZero_t _ fb p a (PA.out.drewN _) NA.out).mono ?_
  rintro e w' ⟨rfl, rfl⟩
  go_wp2
  go_ret2
  exact ⟨zb, rfl, H4.out.drewN _, below_dn _ _ _⟩

theorem mulP_zb (w : World) (fb p q : Nat) (a b : List F) (hf : Fld w fb) (ha : Poly w fb p a) (hb : Poly w fb q b) (na : hi a 0 ≠ 0) (nb : hi b 0 = 0) :
    Calls Tryz.prog 217 #[pt p, pt q] w (MkPoly w fb [0]) := by
  have PA := Lib.hid ha
  have PB := Lib.hid hb
  have NA := Lib.hid na
  have NB := Lib.hid nb
  obtain ⟨ab, ao, ac, pa0, pa1, pa2, pa3, pa4, pa5, pa6, pa7⟩ := ha
  obtain ⟨bb, bo, bc, pb0, pb1, pb2, pb3, pb4, pb5, pb6, pb7⟩ := hb
  clear pa7 pb7 na nb
  obtain ⟨⟨eb, lb, zb, ob, h1, h2, h3, h4, h5, h6, h7⟩, h8⟩ := hf
  have H4 := Lib.hid h4
  clear h1 h4 h5
  have hnp := neq95 ⟨fb, 0, none⟩
  go_enter Tryz.func217, Tryz.ntmps217
  go_wp2_with fail
  go_quiet (fail)
  go_wp2_with fail
  refine (isZero_f _ fb p a (PA.out.drewN _) NA.out).mono ?_
  rintro e w' ⟨rfl, rfl⟩
  go_wp2_with fail
  refine (isZero_t _ fb q b (PB.out.drewN _) NB.out).mono ?_
  rintro e w' ⟨rfl, rfl⟩
  go_wp2
  go_ret2
  exact ⟨zb, rfl, H4.out.drewN _, below_dn _ _ _⟩

theorem mulP_any (w : World) (fb p q : Nat) (a b : List F) (hf : Fld w fb) (ha : Poly w fb p a) (hb : Poly w fb q b) (la : a.length ≤ 1000) (lb : b.length ≤ 1000) :
    Calls Tryz.prog 217 #[pt p, pt q] w (MkPoly w fb (mulP a b)) := by
  unfold mulP
  by_cases na : hi a 0 = 0
  · rw [if_pos (.inl na)]; exact mulP_za w fb p q a b hf ha hb na
  · by_cases nb : hi b 0 = 0
    · rw [if_pos (.inr nb)]; exact mulP_zb w fb p q a b hf ha hb na nb
    · rw [if_neg (by intro h; rcases h with h | h <;> contradiction)]; exact mulP_nz w fb p q a b hf ha hb na nb la lb
end Go.Proofs.YtcnallabiffemaaGreatDoor
