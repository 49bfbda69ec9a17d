import Derived.Test.YtcnallabiffemaaGreatDoorM03
import Derived.Test.YtcnallabiffemaaGreatDoorP04
/- Part of the proof that a Data Matrix symbol of a text, damaged at most to half of its check codewords in each block, is decoded to the text (FnDecode): texts E19. -/
set_option linter.unusedVariables false
set_option linter.unusedSimpArgs false
namespace Go.Proofs.YtcnallabiffemaaGreatDoor
open Go.RowKit (wrap32 wrap64 intOf Hid Below)
open Zx

/-- a generator's coefficient -/
def facF (t k : Nat) : F := if h : (facAt t).getD k 0 < 256 then ⟨(facAt t).getD k 0, h⟩ else 0
theorem facF_v (t k : Nat) (ht : t < 16) : (facF t k).v = (facAt t).getD k 0 := by
  unfold facF
  rw [dif_pos]
  by_cases hk : k < (facAt t).length
  · rw [List.getD_eq_getElem?_getD, List.getElem?_eq_getElem hk]
    exact fac_lt t ht _ (List.getElem_mem hk)
  · rw [List.getD_eq_getElem?_getD, List.getElem?_eq_none (by omega)]; decide
/-- one codeword through the shift register -/
def eccS (n : Nat) (pl e : Nat → F) (c : F) : Nat → F := fun k => (if k = 0 then 0 else e (k - 1)) + (e (n - 1) + c) * pl k
def eccF (n : Nat) (pl : Nat → F) (d : Nat → F) : Nat → Nat → F
  | 0 => fun _ => 0
  | i + 1 => eccS n pl (eccF n pl d i) (d i)
theorem lgt_mul (a b : F) (ha : a ≠ 0) (hb : b ≠ 0) : (ex ((lgt a.v + lgt b.v) % 255) : Nat) = (a * b).v := by
  have e1 : lgt a.v = lg a.v := if_neg (v_ne ha)
  have e2 : lgt b.v = lg b.v := if_neg (v_ne hb)
  rw [e1, e2, ex_mod, fmul_v]
  unfold gm
  rw [if_neg (by simp [v_ne ha, v_ne hb])]

def EccTo (w : World) (n : Nat) (e : Nat → F) (en : Ending) (w' : World) : Prop := ∃ g, en = .returned (.tuple #[.slice (some ⟨g, 0, none⟩) n n, .nilIface]) ∧ w'.rowIs g 5 n (fun i => byt (e (n - 1 - i)).v) ∧ w.heap.size ≤ g ∧ Below w.heap.size w w'
theorem mkBn (n : Nat) (hn : n ≤ 1000000) (w : World) : (Instr.makeSlice 32 (.int .i64 (n : Int)) (.int .i64 (n : Int))).run Tryz.prog w = .ok (.slice (some ⟨w.heap.size, 0, none⟩) n n) (w.alloc (.cells (madeCells #[.int .u8 0] n) 5)) :=
  run_make_row' (P := Tryz.prog) 32 5 (.int .u8 0) 1 Tryz.underlying32 infoB rfl .i64 .i64 n (by omega) (by omega) w

theorem ecc_row {new old : Nat → F} {k J : Nat} (hJ : k = J + 1) (v : F) (hv : new k = v) (j : Nat) : (if j = k then Value.int .i64 (v.v : Int) else .int .i64 ((if k < j then new j else old j).v : Int)) = .int .i64 ((if J < j then new j else old j).v : Int) := by
  by_cases h : j = k
  · rw [if_pos h, if_pos (by omega), h, hv]
  · rw [if_neg h]
    by_cases h2 : k < j
    · rw [if_pos h2, if_pos (by omega)]
    · rw [if_neg h2, if_neg (by omega)]
theorem ecc_row0 {n N : Nat} {pl old new e1 : Nat → F} {c mm v : F} (hn : n = N + 1) (he : e1 = eccS n pl old c) (hm : old N + c = mm) (hnew : new = fun j => old (j - 1) + mm * pl j) (hv : mm * pl 0 = v) (j : Nat) :
    (if j = 0 then Value.int .i64 (v.v : Int) else .int .i64 ((if 0 < j then new j else old j).v : Int)) = .int .i64 ((e1 j).v : Int) := by
  have hN : n - 1 = N := by omega
  by_cases h : j = 0
  · rw [if_pos h, he, h]
    unfold eccS
    rw [if_pos rfl, hN, hm, hv, zero_add]
  · rw [if_neg h, if_pos (by omega), he, hnew]
    unfold eccS
    rw [if_neg h, hN, hm]

set_option maxRecDepth 100000 in
set_option maxHeartbeats 8000000 in
theorem eccC (w : World) (g m c n t : Nat) (d : Nat → F) (hd : ∀ j, j < m → w.cell? ⟨g, j, none⟩ = some (byt (d j).v)) (hg : 0 < m → g < w.heap.size) (hm : m ≤ 5000) (ht : t < 16) (hn : facL t = n) :
    Calls Tryz.prog 138 #[.slice (some ⟨g, 0, none⟩) m c, .int .i64 n] w (EccTo w n (eccF n (facF t) d m)) := by
  have hn2 : 5 ≤ n ∧ n ≤ 68 := by
    have : ∀ t, t < 16 → 5 ≤ facL t ∧ facL t ≤ 68 := by decide +kernel
    rw [← hn]; exact this t ht
  have m1 := mkI n (by omega)
  have m2 := mkBn n (by omega)
  have M1 := Lib.hid m1; clear m1
  have M2 := Lib.hid m2; clear m2
  have HD := Lib.hid hd; clear hd
  have HN := Lib.hid hn; clear hn
  go_enter Tryz.func138, Tryz.ntmps138
  go_wp2_with fail
  go_loopw [6, 7] (fun s6 s7 wr => ∃ i : Nat, s7 = .int .i64 i ∧ s6 = .int .i64 (-1) ∧ i ≤ t ∧ Below w.heap.size w wr) (fun _ s7 _ => 16 - (intOf s7).toNat)
  case atStart => exact ⟨0, rfl, rfl, Nat.zero_le _, Below.refl _ _⟩
  case round =>
    obtain ⟨i, rfl, rfl, hit, hb⟩ := hrel
    have HB := Lib.hid hb; clear hb
    have hi16 : i < 16 := by omega
    go_wp2_with fail
    refine (setsC wr).mono ?_
    rintro e w1 ⟨rfl, hr1, hb1⟩
    clear hr1
    have HB1 := Lib.hid (HB.out.trans (hb1.mono HB.out.size)); clear hb1
    go_wp2_with fail
    refine (setsC w1).mono ?_
    rintro e w2 ⟨rfl, hr2, hb2⟩
    have HB2 := Lib.hid (HB1.out.trans (hb2.mono HB1.out.size)); clear hb2
    have ci := hr2.cell (i := i) hi16
    clear hr2
    have hinj := fac_inj t ht i
    by_cases hti : i = t
    · subst hti
      rw [HN.out] at ci
      clear hinj
      go_wp2_with fail
      clear ci
      refine (facsC w2).mono ?_
      rintro e w3 ⟨rfl, hp1, hp2, hb3⟩
      have hcf := hp1.cell (i := i) hi16
      have hrp := hp2 i hi16
      rw [HN.out] at hcf hrp
      have HRP : Hid (w3.rowIs (w2.heap.size + i) 3 n (fun k => .int .i64 (facF i k).v)) := Lib.hid (hrp.congr fun k _ => by rw [facF_v i k ht])
      have hpl3 : w2.heap.size + i < w3.heap.size := hrp.lt
      have HB3 := Lib.hid (HB2.out.trans (hb3.mono HB2.out.size)); clear hb3 hp1 hp2 hrp HB HB1
      generalize w2.heap.size + i = pb at hcf HRP hpl3
      go_wp2_with fail
      refine (tabsC w3).mono ?_
      rintro e w4 ⟨rfl, htb, hb4⟩
      have HRP4 := Lib.hid (rowIs_below HRP.out hb4 hpl3)
      have HB4 := Lib.hid (HB3.out.trans (hb4.mono HB3.out.size))
      have hz4 := hb4.size
      clear HRP HB2 HB3 hcf hb4
      have TB := Lib.hid htb
      have hxb := htb.ex.lt
      clear htb
      obtain ⟨pl, hple⟩ : ∃ pl, facF i = pl := ⟨_, rfl⟩
      rw [hple] at HRP4
      have HPLE := Lib.hid hple; clear hple
      obtain ⟨lb, hlb⟩ : ∃ lb, w3.heap.size = lb := ⟨_, rfl⟩
      rw [hlb] at TB hxb hz4 hpl3 ⊢
      obtain ⟨xb, hxx⟩ : ∃ xb, lb + 1 = xb := ⟨_, rfl⟩
      rw [hxx] at TB hxb ⊢
      clear hlb
      have hpb4 : pb < w4.heap.size := by omega
      have hlb4 : lb < w4.heap.size := by omega
      have HGL : Hid (0 < m → g < w4.heap.size) := Lib.hid fun h => Nat.lt_of_lt_of_le (hg h) HB4.out.size
      have HD4 : Hid (∀ j, j < m → w4.cell? ⟨g, j, none⟩ = some (byt (d j).v)) := Lib.hid fun j hj => (HB4.out.cell (p := ⟨g, j, none⟩) (hg (by omega))).trans (HD.out j hj)
      clear hg HD hxx hz4 hpl3 HN
      have m1 := M1.out
      go_wp2_with fail
      clear m1
      obtain ⟨eb, heb⟩ : ∃ eb, w4.heap.size = eb := ⟨_, rfl⟩
      have r0 := World.rowIs_made w4 (.int .i64 0) n 3
      rw [heb] at r0 ⊢
      have R0 : Hid ((w4.alloc (.cells (madeCells #[.int .i64 0] n) 3)).rowIs eb 3 n (fun k => .int .i64 (eccF n pl d 0 k).v)) := Lib.hid (r0.congr fun k _ => rfl)
      have HEB := Lib.hid heb; clear heb r0
      obtain ⟨N, hN⟩ : ∃ N, n = N + 1 := ⟨n - 1, by omega⟩
      have HNN := Lib.hid hN
      have eN : ((n : Int) - 1).toNat = N := by omega
      have gN : (0 : Int) ≤ (n : Int) - 1 := by omega
      have gN2 : (n : Int) - 1 < (n : Int) := by omega
      clear hN
      go_loopw [12] (fun s12 wr => ∃ a : Nat, s12 = .int .i64 a ∧ a ≤ m ∧ wr.rowIs eb 3 n (fun k => .int .i64 (eccF n pl d a k).v) ∧ Below w4.heap.size w4 wr) (fun s12 _ => m - (intOf s12).toNat)
      case atStart => exact ⟨0, rfl, Nat.zero_le _, R0.out, (Below.refl _ _).alloc (Nat.le_refl _) _⟩
      case round =>
        clear R0
        obtain ⟨a, rfl, ham, hrow, hb5⟩ := hrel
        obtain ⟨w5, rfl⟩ : ∃ w5 : World, w5 = wr := ⟨_, rfl⟩
        have ROW := Lib.hid hrow; clear hrow
        have HB5 := Lib.hid hb5; clear hb5
        by_cases ha : a < m
        · have cc := (HB5.out.cell (p := ⟨g, a, none⟩) (HGL.out (by omega))).trans (HD4.out a ha)
          have hes : eccF n pl d (a + 1) = eccS n pl (eccF n pl d a) (d a) := rfl
          obtain ⟨E1, hE1⟩ : ∃ E1, eccF n pl d (a + 1) = E1 := ⟨_, rfl⟩
          rw [hE1] at hes
          have HE1 := Lib.hid hE1; clear hE1
          have HES := Lib.hid hes; clear hes
          generalize eccF n pl d a = E0 at ROW HES
          generalize d a = da at cc HES
          have hdl := da.lt
          have cn := ROW.out.cell (i := N) (by rw [HNN.out]; exact Nat.lt_succ_self _)
          go_wp2_with fail
          go_quiet (fail)
          rw [xor_f]
          have ROW6 : Hid ((w5.drewN nq).rowIs eb 3 n (fun k => .int .i64 (E0 k).v)) := Lib.hid ROW.out
          have HB6 := Lib.hid (HB5.out.trans (below_dn w4.heap.size w5 nq))
          clear ROW HB5 cc cn hdl
          generalize w5.drewN nq = w6 at ROW6 HB6 ⊢
          obtain ⟨mm, hmm⟩ : ∃ mm, E0 N + da = mm := ⟨_, rfl⟩
          rw [hmm]
          have HMM := Lib.hid hmm; clear hmm
          have hml := mm.lt
          obtain ⟨new, hnew⟩ : ∃ new : Nat → F, new = fun j => E0 (j - 1) + mm * pl j := ⟨_, rfl⟩
          have HNEW := Lib.hid hnew; clear hnew
          go_wp2_with fail
          go_loopw [14] (fun s14 wr => ∃ k : Nat, s14 = .int .i64 k ∧ k ≤ N ∧ wr.rowIs eb 3 n (fun j => .int .i64 (if k < j then new j else E0 j).v) ∧ Below w4.heap.size w4 wr) (fun s14 _ => (intOf s14).toNat)
          case atStart => exact ⟨N, by go_num, Nat.le_refl _, ROW6.out.congr fun j hj => by rw [if_neg (by have := HNN.out; omega)], HB6.out⟩
          case round =>
            clear ROW6 HB6
            obtain ⟨k, rfl, hkN, hrow, hb6⟩ := hrel
            obtain ⟨w6, rfl⟩ : ∃ w6 : World, w6 = wr := ⟨_, rfl⟩
            have ROW := Lib.hid hrow; clear hrow
            have HB6 := Lib.hid hb6; clear hb6
            have hkn : k < n := by have := HNN.out; omega
            have cpk := (rowIs_below HRP4.out HB6.out hpb4).cell (i := k) hkn
            generalize hpk : pl k = pk at cpk
            have HPK := Lib.hid hpk; clear hpk
            by_cases hk0 : k = 0
            · subst hk0
              have ck := ROW.out.cell (i := 0) hkn
              rw [if_neg (Nat.lt_irrefl 0)] at ck
              have fk := ROW.out.frozen 0
              have RS := Lib.hid (fun (v : F) (hv : mm * pk = v) nq => row_step ROW.out HB6.out (show w4.heap.size ≤ eb by rw [HEB.out]; exact Nat.le_refl _) nq 0 (.int .i64 v.v) (g := fun j => .int .i64 ((E1 j).v : Int)) (fun j _ => ecc_row0 HNN.out HES.out HMM.out HNEW.out (by rw [HPK.out]; exact hv) j))
              by_cases hz : mm = 0 ∨ pk = 0
              · have RS2 := Lib.hid (RS.out 0 (by rcases hz with h | h; rw [h, zero_mul]; rw [h, mul_zero]) 0)
                clear RS
                have q : (((mm.v : Int) != 0) = false) ∨ (((mm.v : Int) != 0) = true ∧ ((pk.v : Int) != 0) = false) := by
                  by_cases hm0 : mm.v = 0
                  · exact .inl (int_nf (by omega))
                  · refine .inr ⟨int_nt (by omega), int_nf ?_⟩
                    rcases hz with h | h
                    · exact absurd (by rw [h]; rfl) hm0
                    · rw [h]; rfl
                clear hz
                rcases q with q | ⟨q, q2⟩
                · go_wp2
                  go_roundw
                  case rel => exact ⟨a + 1, by go_num, ha, by rw [HE1.out]; exact RS2.out⟩
                  case measure => simp [intOf]; omega
                · go_wp2
                  go_roundw
                  case rel => exact ⟨a + 1, by go_num, ha, by rw [HE1.out]; exact RS2.out⟩
                  case measure => simp [intOf]; omega
              · have hm0 : mm ≠ 0 := fun h => hz (.inl h)
                have hp0 : pk ≠ 0 := fun h => hz (.inr h)
                have q := int_nt (a := (mm.v : Int)) (b := 0) (by have := v_ne hm0; omega)
                have q2 := int_nt (a := (pk.v : Int)) (b := 0) (by have := v_ne hp0; omega)
                have la := (rowIs_below TB.out.lg HB6.out hlb4).cell (i := mm.v) mm.lt
                have lp := (rowIs_below TB.out.lg HB6.out hlb4).cell (i := pk.v) pk.lt
                have ba := lgt_lt mm
                have bp := lgt_lt pk
                have hpl := pk.lt
                have hex := (rowIs_below TB.out.ex HB6.out hxb).cell (i := (lgt mm.v + lgt pk.v) % 255) (Nat.mod_lt _ (by decide))
                rw [lgt_mul mm pk hm0 hp0] at hex
                have RS2 := Lib.hid (RS.out (mm * pk) rfl)
                clear RS hz hm0 hp0
                generalize lgt mm.v = lm at la ba hex
                generalize lgt pk.v = lk at lp bp hex
                go_wp2_with fail
                refine wp_region_quiet_tail 17 (by kernel_rfl) (by kernel_rfl) ?_
                simp only [List.take_succ_cons, List.take_zero, List.drop_succ_cons, List.drop_zero]
                repeat (first | go_big_quiet_step (fail) | quiet_step (fail))
                refine wpQuiet_nil ?_
                intro _ hw1q
                obtain ⟨nq, hw2q⟩ := hw1q
                subst hw2q
                go_wp2
                go_roundw
                case rel => exact ⟨a + 1, by go_num, ha, by rw [HE1.out]; exact RS2.out _⟩
                case measure => simp [intOf]; omega
            · obtain ⟨J, hJ⟩ : ∃ J, k = J + 1 := ⟨k - 1, by omega⟩
              have HJ := Lib.hid hJ
              have hJn : J < n := by omega
              have eJ : ((k : Int) - 1).toNat = J := by omega
              have gJ : (0 : Int) ≤ (k : Int) - 1 := by omega
              have gJ2 : (k : Int) - 1 < (n : Int) := by omega
              have hk1 : decide ((0 : Int) < (k : Int)) = true := decide_eq_true (by omega)
              have cj := ROW.out.cell (i := J) hJn
              rw [if_neg (by omega : ¬ k < J)] at cj
              have fk := ROW.out.frozen k
              have ck := ROW.out.cell (i := k) hkn
              rw [if_neg (Nat.lt_irrefl k)] at ck
              clear hJ hk0
              have NR := Lib.hid (fun (v : F) (hv : new k = v) => (ROW.out.set k (.int .i64 v.v)).congr fun j _ => ecc_row HJ.out v hv j)
              have hnk : Hid (new k = E0 J + mm * pk) := Lib.hid (by rw [HNEW.out]; show E0 (k - 1) + mm * pl k = _; rw [HPK.out, show k - 1 = J by have := HJ.out; omega])
              by_cases hz : mm = 0 ∨ pk = 0
              · have NR2 := Lib.hid (NR.out (E0 J) (by rw [hnk.out]; rcases hz with h | h; rw [h, zero_mul, add_zero]; rw [h, mul_zero, add_zero]))
                have NB2 := Lib.hid (HB6.out.setCell (p := ⟨eb, k, none⟩) (show w4.heap.size ≤ eb by rw [HEB.out]; exact Nat.le_refl _) (.int .i64 (E0 J).v))
                clear NR hnk
                have q : (((mm.v : Int) != 0) = false) ∨ (((mm.v : Int) != 0) = true ∧ ((pk.v : Int) != 0) = false) := by
                  by_cases hm0 : mm.v = 0
                  · exact .inl (int_nf (by omega))
                  · refine .inr ⟨int_nt (by omega), int_nf ?_⟩
                    rcases hz with h | h
                    · exact absurd (by rw [h]; rfl) hm0
                    · rw [h]; rfl
                clear hz
                rcases q with q | ⟨q, q2⟩
                · go_wp2
                  go_roundw
                  case rel => exact ⟨J, val_int (by have := HJ.out; omega), by have := HJ.out; omega, NR2.out, NB2.out⟩
                  case measure => simp [intOf]; have := HJ.out; omega
                · go_wp2
                  go_roundw
                  case rel => exact ⟨J, val_int (by have := HJ.out; omega), by have := HJ.out; omega, NR2.out, NB2.out⟩
                  case measure => simp [intOf]; have := HJ.out; omega
              · have hm0 : mm ≠ 0 := fun h => hz (.inl h)
                have hp0 : pk ≠ 0 := fun h => hz (.inr h)
                have q := int_nt (a := (mm.v : Int)) (b := 0) (by have := v_ne hm0; omega)
                have q2 := int_nt (a := (pk.v : Int)) (b := 0) (by have := v_ne hp0; omega)
                have la := (rowIs_below TB.out.lg HB6.out hlb4).cell (i := mm.v) mm.lt
                have lp := (rowIs_below TB.out.lg HB6.out hlb4).cell (i := pk.v) pk.lt
                have ba := lgt_lt mm
                have bp := lgt_lt pk
                have hpl := pk.lt
                have hex := (rowIs_below TB.out.ex HB6.out hxb).cell (i := (lgt mm.v + lgt pk.v) % 255) (Nat.mod_lt _ (by decide))
                rw [lgt_mul mm pk hm0 hp0] at hex
                have RS := Lib.hid (fun nq => row_step ROW.out HB6.out (show w4.heap.size ≤ eb by rw [HEB.out]; exact Nat.le_refl _) nq k (.int .i64 (E0 J + mm * pk).v) (g := fun j => .int .i64 ((if J < j then new j else E0 j).v : Int)) (fun j _ => ecc_row HJ.out _ hnk.out j))
                clear NR hnk hz hm0 hp0
                generalize lgt mm.v = lm at la ba hex
                generalize lgt pk.v = lk at lp bp hex
                go_wp2_with fail
                refine wp_region_quiet_tail 25 (by kernel_rfl) (by kernel_rfl) ?_
                simp only [List.take_succ_cons, List.take_zero, List.drop_succ_cons, List.drop_zero]
                repeat (first | go_big_quiet_step (fail) | quiet_step (fail))
                refine wpQuiet_nil ?_
                intro _ hw1q
                obtain ⟨nq, hw2q⟩ := hw1q
                subst hw2q
                rw [xor_f]
                go_wp2
                go_roundw
                case rel => exact ⟨J, val_int (by have := HJ.out; omega), by have := HJ.out; omega, RS.out _⟩
                case measure => simp [intOf]; have := HJ.out; omega
        · obtain rfl : m = a := by omega
          obtain ⟨E0, hE0⟩ : ∃ E0, eccF n pl d m = E0 := ⟨_, rfl⟩
          rw [hE0] at ROW
          have HE0 := Lib.hid hE0; clear hE0
          have m2 := M2.out
          go_wp2_with fail
          clear m2
          obtain ⟨rb, hrb⟩ : ∃ rb, w5.heap.size = rb := ⟨_, rfl⟩
          have r0 := World.rowIs_made w5 (.int .u8 0) n 5
          rw [hrb] at r0 ⊢
          have hz5 := HB5.out.size
          have ROW6 := Lib.hid (show (w5.alloc (.cells (madeCells #[.int .u8 0] n) 5)).rowIs eb 3 n _ from ROW.out.alloc _)
          have RB : Hid (Below w4.heap.size w4 (w5.alloc (.cells (madeCells #[.int .u8 0] n) 5)) ∧ w4.heap.size ≤ rb ∧ eb < rb) := Lib.hid ⟨HB5.out.alloc hz5 _, by omega, by have := ROW.out.lt; omega⟩
          have R1 := Lib.hid r0; clear r0 hrb ROW HB5
          generalize w5.alloc (.cells (madeCells #[.int .u8 0] n) 5) = w6 at ROW6 RB R1 ⊢
          go_loopw [16] (fun s16 wr => ∃ q : Nat, s16 = .int .i64 q ∧ q ≤ n ∧ wr.rowIs rb 5 n (fun j => if j < q then byt (E0 (n - 1 - j)).v else .int .u8 0) ∧ Below rb w6 wr) (fun s16 _ => n - (intOf s16).toNat)
          case atStart => exact ⟨0, rfl, Nat.zero_le _, R1.out.congr fun j _ => by rw [if_neg (Nat.not_lt_zero _)], Below.refl _ _⟩
          case round =>
            clear R1
            obtain ⟨q, rfl, hq, hrow, hb7⟩ := hrel
            obtain ⟨w7, rfl⟩ : ∃ w7 : World, w7 = wr := ⟨_, rfl⟩
            have ROW := Lib.hid hrow; clear hrow
            have HB7 := Lib.hid hb7; clear hb7
            by_cases hqn : q < n
            · obtain ⟨J, hJ⟩ : ∃ J, n - 1 - q = J := ⟨_, rfl⟩
              have eJ : ((n : Int) - (q : Int) - 1).toNat = J := by omega
              have gJ : (0 : Int) ≤ (n : Int) - (q : Int) - 1 := by omega
              have gJ2 : (n : Int) - (q : Int) - 1 < (n : Int) := by omega
              have hJn : J < n := by omega
              have ce := (rowIs_below ROW6.out HB7.out RB.out.2.2).cell (i := J) hJn
              have RS : Hid ((w7.setCell ⟨rb, q, none⟩ (byt (E0 J).v)).rowIs rb 5 n (fun j => if j < q + 1 then byt (E0 (n - 1 - j)).v else .int .u8 0)) := Lib.hid ((ROW.out.set q (byt (E0 J).v)).congr fun j _ => by
                by_cases h : j = q
                · rw [if_pos h, if_pos (by omega), h, hJ]
                · rw [if_neg h]
                  by_cases h2 : j < q
                  · rw [if_pos h2, if_pos (by omega)]
                  · rw [if_neg h2, if_neg (by omega)])
              have RB2 := Lib.hid (HB7.out.setCell (p := ⟨rb, q, none⟩) (Nat.le_refl _) (byt (E0 J).v))
              have hlt := (E0 J).lt
              have hu8 : IntKind.u8.wrap ((E0 J).v : Int) = ((E0 J).v : Int) := by rw [IntKind.wrap_u8]; omega
              have cq := ROW.out.cell (i := q) hqn
              rw [if_neg (Nat.lt_irrefl q)] at cq
              have fq := ROW.out.frozen q
              clear hJ
              generalize (E0 J).v = ev at ce hlt hu8 RS RB2
              go_wp2
              go_roundw
              case rel => exact ⟨q + 1, by go_num, hqn, RS.out, RB2.out⟩
              case measure => simp [intOf]; omega
            · obtain rfl : n = q := by omega
              go_wp2
              go_returns
              have z4 := HB4.out.size
              have z5 := RB.out.2.1
              exact ⟨rb, rfl, ROW.out.congr fun j hj => by rw [if_pos hj, HPLE.out, HE0.out], by omega, (HB4.out.trans (RB.out.1.mono z4)).trans (HB7.out.mono (by omega))⟩
    · have hne := hinj (by omega)
      rw [HN.out] at hne
      generalize facL i = fi at ci hne
      have q := int_bf (a := (fi : Int)) (b := (n : Int)) (by omega)
      clear hinj hne
      go_wp2_with fail
      go_roundw
      case rel => exact ⟨i + 1, by go_num, rfl, by omega, HB2.out⟩
      case measure => simp [intOf]; omega
end Go.Proofs.YtcnallabiffemaaGreatDoor
