import Derived.Carry
import Derived.Test.YtcnallabiffemaaGreatDoorM02
import Derived.Test.YtcnallabiffemaaGreatDoorM06
import Derived.Test.YtcnallabiffemaaGreatDoorM15
import Derived.Test.YtcnallabiffemaaGreatDoorM28
/- Part of the proof that a Data Matrix symbol of a text, damaged at most to half of its check codewords in each block, is decoded to the text (FnDecode): texts T7 Ec E0. -/
set_option linter.unusedVariables false
set_option linter.unusedSimpArgs false
namespace Go.Proofs.YtcnallabiffemaaGreatDoor
open Go.RowKit (wrap32 wrap64 intOf Hid Below)
open Zx

theorem mkB (c : Nat) (hc : c ≤ 1000000) (w : World) : (Instr.makeSlice 32 (.int .i64 0) (.int .i64 (c : Int))).run Tryz.prog w = .ok (.slice (some ⟨w.heap.size, 0, none⟩) 0 c) (w.alloc (.cells (madeCells #[.int .u8 0] c) 5)) := by
  obtain ⟨i, hi, hz⟩ := Option.map_eq_some_iff.1 infoB
  simp only [Prod.mk.injEq] at hz
  have := run_make (P := Tryz.prog) 32 5 i (.int .u8 0) Tryz.underlying32 hi hz.1 .i64 .i64 0 (c : Int) (by omega) (by omega) (by rw [hz.2.2]; omega) (by omega) (w := w)
  rw [hz.2.1, show (Value.int .u8 0).cells = #[.int .u8 0] from rfl] at this
  simpa using this
theorem mkS (c : Nat) (hc : c ≤ 1000000) (w : World) : (Instr.makeSlice 37 (.int .i64 0) (.int .i64 (c : Int))).run Tryz.prog w = .ok (.slice (some ⟨w.heap.size, 0, none⟩) 0 c) (w.alloc (.cells (madeCells #[.slice none 0 0] c) 32)) := by
  obtain ⟨i, hi, hz⟩ := Option.map_eq_some_iff.1 info32
  simp only [Prod.mk.injEq] at hz
  have := run_make (P := Tryz.prog) 37 32 i (.slice none 0 0) Tryz.underlying37 hi hz.1 .i64 .i64 0 (c : Int) (by omega) (by omega) (by rw [hz.2.2]; omega) (by omega) (w := w)
  rw [hz.2.1, show (Value.slice none 0 0).cells = #[.slice none 0 0] from rfl] at this
  simpa using this
theorem OwnV.made (w : World) (e : TypeId) (z : Value) (c base : Nat) (hc : c ≤ 1000000) (hb : base ≤ w.heap.size) : OwnV (w.alloc (.cells (madeCells #[z] c) e)) e base (.slice (some ⟨w.heap.size, 0, none⟩) 0 c) [] :=
  ⟨rfl, .inr ⟨w.heap.size, c, _, rfl, hb, heap_alloc_new w _, Nat.zero_le _, by unfold maxLen; omega, by rw [size_madeCells, Nat.mul_one], by simp⟩⟩

/-- bytes as a text -/
def baOf (l : List Nat) : ByteArray := ⟨(l.map UInt8.ofNat).toArray⟩
theorem chs_baOf (l : List Nat) (h : ∀ c ∈ l, c < 256) : chs (baOf l) = l := by
  unfold chs baOf
  simp only [List.map_map]
  conv => rhs; rw [← List.map_id l]
  exact List.map_congr_left fun c hc => by show (UInt8.ofNat c).toNat = c; simp; exact h c hc
theorem strOf (w : World) (g cap : Nat) (l : List Nat) (hl : ∀ c ∈ l, c < 256) (hc : ∀ (j : Nat) (u : Value), (l.map byt)[j]? = some u → w.cell? ⟨g, j, none⟩ = some u) :
    (convert 32 9 (.slice (some ⟨g, 0, none⟩) l.length cap)).run Tryz.prog w = .ok (.string (baOf l)) w := by
  have := run_convert_bytes_back (P := Tryz.prog) w 32 9 5 ⟨g, 0, none⟩ cap (l.map UInt8.ofNat) Tryz.underlying32 Tryz.underlying5 Tryz.underlying9 (fun j hj => by
    have hj' : j < l.length := by simpa using hj
    rw [addr_add, Nat.zero_add, hc j (byt l[j]) (by simp [hj'])]
    have := hl l[j] (List.getElem_mem hj')
    simp; omega)
  rwa [List.length_map] at this

theorem below_al {B : Nat} {w w' : World} (h : Below B w w') (hB : B ≤ w.heap.size) (o : Obj) : Below B w (w'.alloc o) := h.alloc (Nat.le_trans hB h.size) o

theorem bas_k {d : Nat → Nat} {n i k : Nat} {out : List Nat} (hi : i < n) (h : dBas i (ds d n i) = some (out, k)) : i + k ≤ n ∧ 1 ≤ k ∧ out.length ≤ k := by
  rcases bas_at hi h with ⟨_, h1, h2, rfl, h4⟩ | ⟨_, _, h1, h2, rfl, h4⟩ | ⟨_, _, h1, h2, rfl, h4⟩ <;> (rw [List.length_map, List.length_range]; omega)
def BitsTo (w : World) (raw : Value) (out : List Nat) (e : Ending) (w' : World) : Prop := ∃ p, e = .returned (.tuple #[pt p, .nilIface]) ∧ Rslt w' p raw (baOf out) ∧ Below w.heap.size w w'

set_option maxRecDepth 100000 in
set_option maxHeartbeats 4000000 in
theorem bitsC (w : World) (bb n : Nat) (d : Nat → Nat) (out : List Nat) (hr : w.rowIs bb 5 n (fun j => .int .u8 (d j))) (hl : ∀ j, j < n → d j < 256) (hn : n ≤ 5000) (hd : Dec 1 0 (ds d n 0) out) (h128 : ∀ c ∈ out, c < 128) (hne : out ≠ []) :
    Calls Tryz.prog 61 #[.slice (some ⟨bb, 0, none⟩) n n] w (BitsTo w (.slice (some ⟨bb, 0, none⟩) n n) out) := by
  have hblt := hr.lt
  have HR := Lib.hid hr; clear hr
  have HL := Lib.hid hl; clear hl
  have HNE := Lib.hid hne; clear hne
  have H128 := Lib.hid h128; clear h128
  have d0 : DecAt d n out 1 0 [] := ⟨Nat.zero_le _, by decide, fun h => absurd rfl h, out, hd, rfl⟩
  have D0 := Lib.hid d0; clear d0 hd
  have hmm := @Go.RowKit.run_makeMap Tryz.prog
  have mk1 := mkB 100 (by decide)
  have mk2 := mkB 0 (by decide)
  have mk3 := mkS 1 (by decide)
  rw [show ((100 : Nat) : Int) = 100 from rfl] at mk1
  rw [show ((0 : Nat) : Int) = 0 from rfl] at mk2
  rw [show ((1 : Nat) : Int) = 1 from rfl] at mk3
  go_enter Tryz.func61, Tryz.ntmps61
  go_wp2_with fail
  refine (newSrc w bb n d HR.out HL.out hn).mono ?_
  rintro e w1 ⟨rfl, hs1, hz1, hb1⟩
  have HS1 := Lib.hid hs1; clear hs1
  have HB1 := Lib.hid hb1; clear hb1
  have HZ1 := Lib.hid hz1; clear hz1
  obtain ⟨wD, hwD⟩ : ∃ wD, ((((w1.alloc (.cells (madeCells #[.int .u8 0] 100) 5)).alloc (.cells (madeCells #[.int .u8 0] 0) 5)).alloc (.cells (madeCells #[.slice none 0 0] 1) 32)).alloc (.map #[] 0)) = wD := ⟨_, rfl⟩
  have sx0 : Sx wD w.heap.size bb n w1.heap.size (w1.heap.size + 3) d (.slice (some ⟨w1.heap.size, 0, none⟩) 0 100) (.slice (some ⟨w1.heap.size + 2, 0, none⟩) 0 1) wD 0 (.slice (some ⟨w1.heap.size, 0, none⟩) 0 100) (.slice (some ⟨w1.heap.size + 2, 0, none⟩) 0 1) [] := by
    have z1 := HZ1.out
    have b1 : Below w1.heap.size w1 wD := by rw [← hwD]; exact below_al (below_al (below_al (below_al (Below.refl _ _) (Nat.le_refl _) _) (Nat.le_refl _) _) (Nat.le_refl _) _) (Nat.le_refl _) _
    have zD : wD.heap.size = w1.heap.size + 4 := by rw [← hwD]; simp
    have o0 := OwnV.made w1 5 (.int .u8 0) 100 w1.heap.size (by decide) (Nat.le_refl _)
    have o1 := ((o0.below ((Below.refl _ _).alloc (Nat.le_refl _) (.cells (madeCells #[.int .u8 0] 0) 5))).below ((Below.refl _ _).alloc (Nat.le_refl _) (.cells (madeCells #[.slice none 0 0] 1) 32))).below ((Below.refl _ _).alloc (Nat.le_refl _) (.map #[] 0))
    have s0 := OwnV.made ((w1.alloc (.cells (madeCells #[.int .u8 0] 100) 5)).alloc (.cells (madeCells #[.int .u8 0] 0) 5)) 32 (.slice none 0 0) 1 w1.heap.size (by decide) (by simp only [World.size_alloc]; omega)
    rw [show ((w1.alloc (.cells (madeCells #[.int .u8 0] 100) 5)).alloc (.cells (madeCells #[.int .u8 0] 0) 5)).heap.size = w1.heap.size + 2 by simp] at s0
    have s1 := s0.below ((Below.refl _ _).alloc (Nat.le_refl _) (.map #[] 0))
    rw [hwD] at o1 s1
    refine ⟨⟨rowIs_below HS1.out.box b1 (by omega), rowIs_below HS1.out.row b1 (by omega), HL.out, hn, by omega⟩, o1, ⟨[], s1, by simp⟩, ?_, But.refl _ _, .inl rfl, .inl rfl, by simp, by omega, ?_⟩
    · intro b h1 h2
      simp [Value.ownBlock] at h1 h2
      omega
    · rw [← hwD]
      have := heap_alloc_new (((w1.alloc (.cells (madeCells #[.int .u8 0] 100) 5)).alloc (.cells (madeCells #[.int .u8 0] 0) 5)).alloc (.cells (madeCells #[.slice none 0 0] 1) 32)) (.map #[] 0)
      rwa [show (((w1.alloc (.cells (madeCells #[.int .u8 0] 100) 5)).alloc (.cells (madeCells #[.int .u8 0] 0) 5)).alloc (.cells (madeCells #[.slice none 0 0] 1) 32)).heap.size = w1.heap.size + 3 by simp] at this
  have SX0 := Lib.hid sx0; clear sx0
  have hzD : Hid (wD.heap.size = w1.heap.size + 4) := Lib.hid (by rw [← hwD]; simp)
  have bD : Hid (Below w.heap.size w wD) := Lib.hid (by
    have b1 : Below w1.heap.size w1 wD := by rw [← hwD]; exact below_al (below_al (below_al (below_al (Below.refl _ _) (Nat.le_refl _) _) (Nat.le_refl _) _) (Nat.le_refl _) _) (Nat.le_refl _) _
    exact HB1.out.trans (b1.mono HB1.out.size))
  go_wp2_with fail
  clear hwD mk1 mk2 mk3 hmm
  go_loopg [5, 6, 7, 8, 11] (2 * n) (fun g s5 s6 s7 s8 s11 wr => ∃ (x y : Value) (m j : Nat) (acc : List Nat), x = s5 ∧ y = s7 ∧ s6 = .slice (some ⟨w1.heap.size + 1, 0, none⟩) 0 0 ∧ s8 = .int .i64 m ∧ s11 = .bool false ∧ g = 2 * (n - j) + (if m = 1 then 0 else 1) ∧ DecAt d n out m j acc ∧
    Sx wD w.heap.size bb n w1.heap.size (w1.heap.size + 3) d (.slice (some ⟨w1.heap.size, 0, none⟩) 0 100) (.slice (some ⟨w1.heap.size + 2, 0, none⟩) 0 1) wr j x y acc)
  case atStart => exact ⟨_, _, 1, 0, [], rfl, rfl, rfl, rfl, rfl, rfl, D0.out, SX0.out⟩
  case round =>
    clear D0 SX0
    obtain ⟨x, y, m, j, acc, rfl, rfl, rfl, rfl, rfl, hgk, hda, hsx⟩ := hrel
    obtain ⟨gM, rfl⟩ : ∃ g, g = gk := ⟨_, rfl⟩
    obtain ⟨w2, rfl⟩ : ∃ w2 : World, w2 = wr := ⟨_, rfl⟩
    have hjn := hda.1
    have hm6 := hda.2.1
    have HGK := Lib.hid hgk; clear hgk
    have HDA := Lib.hid hda; clear hda
    have SX := Lib.hid hsx; clear hsx
    go_upto_region 9 with fail
    go_cut [25] from 25 to 25 (fun c wx => c = .bool (decide (m ≠ 0 ∧ j < n)) ∧ Sx wD w.heap.size bb n w1.heap.size (w1.heap.size + 3) d (.slice (some ⟨w1.heap.size, 0, none⟩) 0 100) (.slice (some ⟨w1.heap.size + 2, 0, none⟩) 0 1) wx j x y acc)
    case first =>
      by_cases hm0 : m = 0
      · have K0 := Lib.hid hm0
        have q0 := int_nf (a := (m : Int)) (b := 0) (by omega)
        clear hm0
        go_wp2
        go_meet
        exact ⟨congrArg Value.bool (by simp [K0.out]), SX.out⟩
      · have K0 := Lib.hid hm0
        have q0 := int_nt (a := (m : Int)) (b := 0) (by omega)
        clear hm0
        go_wp2_with fail
        refine (avail w2 w.heap.size bb n j 0 d SX.out.src hjn (by decide)).mono ?_
        rintro e w3 ⟨rfl, md, rfl⟩
        by_cases hj : j < n
        · have K1 := Lib.hid hj
          go_wp2
          go_meet
          exact ⟨congrArg Value.bool (by rw [decide_eq_true (show m ≠ 0 ∧ j < n from ⟨K0.out, K1.out⟩)]; first | rfl | (simp; omega)), SX.out.dn md⟩
        · have K1 := Lib.hid hj
          go_wp2
          go_meet
          exact ⟨congrArg Value.bool (by rw [decide_eq_false (show ¬ (m ≠ 0 ∧ j < n) from fun h => K1.out h.2)]; first | rfl | (simp; omega)), SX.out.dn md⟩
    obtain ⟨hc, hsx⟩ := hcut
    subst hc
    clear SX
    obtain ⟨w3, rfl⟩ : ∃ w3 : World, w3 = wc := ⟨_, rfl⟩
    have SX := Lib.hid hsx; clear hsx
    by_cases hA : m ≠ 0 ∧ j < n
    · rw [decide_eq_true hA]
      have hn2 := HDA.out.next hA.1 hA.2 SX.out.len
      have hmb : w1.heap.size + 3 < wD.heap.size ∧ w1.heap.size ≤ w1.heap.size + 3 := by have := hzD.out; omega
      have hx0 : ∀ b, (Value.slice (some ⟨w1.heap.size, 0, none⟩) 0 100).ownBlock = some b → b ≠ w1.heap.size + 3 := fun b h => by simp [Value.ownBlock] at h; omega
      have hy0 : ∀ b, (Value.slice (some ⟨w1.heap.size + 2, 0, none⟩) 0 1).ownBlock = some b → b ≠ w1.heap.size + 3 := fun b h => by simp [Value.ownBlock] at h; omega
      have HX0 := Lib.hid hx0; clear hx0
      have HY0 := Lib.hid hy0; clear hy0
      obtain ⟨hA0, hAj⟩ := hA
      rcases hn2 with ⟨rfl, m', o, k, h1, h2, h3⟩ | ⟨hm, o, k, h1, h2⟩ | ⟨rfl, hl1, o, k, h1, h2⟩ | ⟨rfl, o, k, h1, h2, h3, h4⟩
      · have H2 := Lib.hid (h2 h3); clear h2
        have c1 := ascC w3 w.heap.size bb n j w1.heap.size m' k d x (.slice (some ⟨w1.heap.size + 1, 0, none⟩) 0 0) (.map (some (w1.heap.size + 1 + 1 + 1))) acc o SX.out.gr hjn h1
        clear h1
        go_wp2_with fail
        refine c1.mono ?_
        rintro e w4 ⟨x', rfl, hg⟩
        clear c1
        have SX4 := Lib.hid (SX.out.seg hmb HX0.out hg)
        clear hg
        go_wp2
        go_roundg (2 * (n - (j + k)) + (if m' = 1 then 0 else 1))
        case rel => exact ⟨x', y, m', j + k, acc ++ o, rfl, rfl, rfl, rfl, rfl, rfl, H2.out, SX4.out⟩
        case measure => have h9 : gM = 2 * (n - j) := (by have := HGK.out; simpa using this); have := H2.out.1; split <;> omega
      · have H2 := Lib.hid h2; clear h2
        rcases hm with rfl | rfl | rfl
        · have c1 := c40C w3 w.heap.size bb n j w1.heap.size k d x (.map (some (w1.heap.size + 1 + 1 + 1))) acc o SX.out.gr hjn h1
          clear h1
          go_wp2_with fail
          refine c1.mono ?_
          rintro e w4 ⟨x', rfl, hg⟩
          clear c1
          have SX4 := Lib.hid (SX.out.seg hmb HX0.out hg)
          clear hg
          go_wp2
          go_roundg (2 * (n - (j + k)) + 0)
          case rel => exact ⟨x', y, 1, j + k, acc ++ o, rfl, rfl, rfl, rfl, rfl, rfl, H2.out, SX4.out⟩
          case measure => have h9 : gM = 2 * (n - j) + 1 := (by have := HGK.out; simpa using this); omega
        · have c1 := txtC w3 w.heap.size bb n j w1.heap.size k d x (.map (some (w1.heap.size + 1 + 1 + 1))) acc o SX.out.gr hjn h1
          clear h1
          go_wp2_with fail
          refine c1.mono ?_
          rintro e w4 ⟨x', rfl, hg⟩
          clear c1
          have SX4 := Lib.hid (SX.out.seg hmb HX0.out hg)
          clear hg
          go_wp2
          go_roundg (2 * (n - (j + k)) + 0)
          case rel => exact ⟨x', y, 1, j + k, acc ++ o, rfl, rfl, rfl, rfl, rfl, rfl, H2.out, SX4.out⟩
          case measure => have h9 : gM = 2 * (n - j) + 1 := (by have := HGK.out; simpa using this); omega
        · have c1 := x12C w3 w.heap.size bb n j w1.heap.size k d x acc o SX.out.gr hjn h1
          clear h1
          go_wp2_with fail
          refine c1.mono ?_
          rintro e w4 ⟨x', rfl, hg⟩
          clear c1
          have SX4 := Lib.hid (SX.out.seg hmb HX0.out hg)
          clear hg
          go_wp2
          go_roundg (2 * (n - (j + k)) + 0)
          case rel => exact ⟨x', y, 1, j + k, acc ++ o, rfl, rfl, rfl, rfl, rfl, rfl, H2.out, SX4.out⟩
          case measure => have h9 : gM = 2 * (n - j) + 1 := (by have := HGK.out; simpa using this); omega
      · have H2 := Lib.hid h2; clear h2
        have c1 := ediC w3 w.heap.size bb n j w1.heap.size k d x acc o SX.out.gr hjn hl1 h1
        clear h1
        go_wp2_with fail
        refine c1.mono ?_
        rintro e w4 ⟨x', rfl, hg⟩
        clear c1
        have SX4 := Lib.hid (SX.out.seg hmb HX0.out hg)
        clear hg
        go_wp2
        go_roundg (2 * (n - (j + k)) + 0)
        case rel => exact ⟨x', y, 1, j + k, acc ++ o, rfl, rfl, rfl, rfl, rfl, rfl, H2.out, SX4.out⟩
        case measure => have h9 : gM = 2 * (n - j) + 1 := (by have := HGK.out; simpa using this); omega
      · obtain ⟨xs, hxs, hxl⟩ := SX.out.segs
        have hbk := bas_k hAj h1
        have c1 := basC w3 w.heap.size bb n j w1.heap.size k (j + 1) d x y xs acc o SX.out.gr hAj hxs (by omega) (by omega) SX.out.ne h1 h2 h3
        have H2 := Lib.hid (h4 hbk.1)
        clear h1 h2 h3 h4 hxs
        go_wp2_with fail
        refine c1.mono ?_
        rintro e w4 hg
        obtain ⟨x', y', rfl, hg2⟩ := SX.out.bas hmb HX0.out HY0.out hg (by omega) (by have := SX.out.len; rw [List.length_append]; omega)
        clear c1 hg
        have SX4 := Lib.hid hg2
        clear hg2
        go_wp2
        go_roundg (2 * (n - (j + k)) + 0)
        case rel => exact ⟨x', y', 1, j + k, acc ++ o, rfl, rfl, rfl, rfl, rfl, rfl, H2.out, SX4.out⟩
        case measure => have h9 : gM = 2 * (n - j) + 1 := (by have := HGK.out; simpa using this); omega
    · rw [decide_eq_false hA]
      obtain rfl := HDA.out.stop (if h : m = 0 then .inl h else .inr (by have : ¬ j < n := fun h2 => hA ⟨h, h2⟩; omega))
      clear hA
      rcases SX.out.own.shape with ⟨_, h0⟩ | ⟨gx, cx, rfl, hg1, hg2, hg3, hg4, hg5⟩
      · exact absurd (List.map_eq_nil_iff.1 h0) HNE.out
      · rw [List.length_map] at hg3 ⊢
        have hst := fun (w' : World) (hb : Below w3.heap.size w3 w') => strOf w' gx cx out (fun c hc => by have := H128.out c hc; omega) (fun q u hu => (hb.cell (p := ⟨gx, q, none⟩) hg2).trans (hg4 q u hu))
        have HST := Lib.hid hst; clear hst hg4 hg5
        obtain ⟨xs, hxs, hxl⟩ := SX.out.segs
        have hsh := hxs.shape
        clear hxs hxl
        have hy : ∃ ad ny cy, y = .slice ad ny cy := by
          rcases hsh with ⟨rfl, _⟩ | ⟨gy, cy, rfl, _⟩
          · exact ⟨_, _, _, rfl⟩
          · exact ⟨_, _, _, rfl⟩
        clear hsh
        obtain ⟨ad, ny, cy, rfl⟩ := hy
        go_upto_if 98 with fail
        go_cut [7] from 98 to 98 (fun s7 wx => (∃ a2 n2 c2, s7 = .slice a2 n2 c2) ∧ wx = w3)
        case first =>
          by_cases h0 : ny = 0
          · subst h0
            go_wp2
            go_meet
            exact ⟨⟨_, _, _, rfl⟩, rfl⟩
          · have q0 := int_bf (a := (ny : Int)) (b := 0) (by omega)
            go_wp2
            go_meet
            exact ⟨⟨_, _, _, rfl⟩, rfl⟩
        obtain ⟨⟨a2, n2, c2, rfl⟩, hw⟩ := hcut
        rw [hw]; clear hw wc
        have z4 : w1.heap.size + 3 < w3.heap.size := by have := SX.out.but.size; have := hzD.out; omega
        have bw3 : Below w.heap.size w w3 := by
          refine bD.out.trans (SX.out.but.below bD.out.size fun b hb hs => ?_)
          have := HB1.out.size
          simp [Value.ownBlock] at hs
          omega
        have HM3 := Lib.hid SX.out.map
        clear SX HDA HGK
        have k0 := contC w3 (w1.heap.size + 3) 0 (by decide) HM3.out
        rw [show ((0 : Nat) : Int) = 0 from rfl] at k0
        go_wp2_with fail
        refine k0.mono ?_
        rintro e w4 ⟨rfl, hb4⟩
        clear k0
        have HM4 := Lib.hid ((hb4.block _ z4).trans HM3.out)
        have B4 := Lib.hid hb4; clear hb4
        have k1 := contC w4 (w1.heap.size + 3) 4 (by decide) HM4.out
        rw [show ((4 : Nat) : Int) = 4 from rfl] at k1
        go_wp2_with fail
        refine k1.mono ?_
        rintro e w5 ⟨rfl, hb5⟩
        clear k1
        have z5 := B4.out.size
        have HM5 := Lib.hid ((hb5.block _ (Nat.lt_of_lt_of_le z4 z5)).trans HM4.out)
        have B5 := Lib.hid (B4.out.trans (hb5.mono z5)); clear hb5
        have k2 := contC w5 (w1.heap.size + 3) 1 (by decide) HM5.out
        rw [show ((1 : Nat) : Int) = 1 from rfl] at k2
        go_wp2_with fail
        refine k2.mono ?_
        rintro e w6 ⟨rfl, hb6⟩
        clear k2
        have z6 := B5.out.size
        have HM6 := Lib.hid ((hb6.block _ (Nat.lt_of_lt_of_le z4 z6)).trans HM5.out)
        have B6 := Lib.hid (B5.out.trans (hb6.mono z6)); clear hb6
        have k3 := contC w6 (w1.heap.size + 3) 5 (by decide) HM6.out
        rw [show ((5 : Nat) : Int) = 5 from rfl] at k3
        go_wp2_with fail
        refine k3.mono ?_
        rintro e w7 ⟨rfl, hb7⟩
        clear k3
        have z7 := B6.out.size
        have B7 := Lib.hid (B6.out.trans (hb7.mono z7)); clear hb7
        have hcv := HST.out w7 B7.out
        have z8 := B7.out.size
        clear HM3 HM4 HM5 HM6 B4 B5 B6 z5 z6 z7
        go_wp2_with fail
        refine (newResM w7 (some ⟨bb, 0, none⟩) n n (baOf out) ⟨#[]⟩ a2 n2 c2 1 (by omega)).mono ?_
        rintro e w8 ⟨rfl, hr8, hb8⟩
        have H8 := Lib.hid hr8; clear hr8
        have B8 := Lib.hid hb8; clear hb8
        clear hcv
        go_wp2
        go_ret2
        exact ⟨_, rfl, H8.out, (bw3.trans (B7.out.mono bw3.size)).trans (B8.out.mono (Nat.le_trans bw3.size z8))⟩
end Go.Proofs.YtcnallabiffemaaGreatDoor
namespace Go.Proofs.YtcnallabiffemaaGreatDoor
open Go.RowKit (wrap32 wrap64 intOf Hid Below)
open Zx

theorem enterC {f : FuncId} {fn : Func} {c : Code} (hf : Tryz.prog.funcs[f]? = some fn) (hname : (fn.name == "runtime.NumGoroutine") = false) (hb : fn.body = some c) (args : Array Value) (w : World) :
    (callFunc f args).run Tryz.prog w = .ok (.enter f args) w := by
  have h1 : fn.name ≠ "runtime.NumGoroutine" := by simpa using hname
  simp [callFunc, hf, h1, hb]
end Go.Proofs.YtcnallabiffemaaGreatDoor
namespace Go.Proofs.YtcnallabiffemaaGreatDoor
open Go.RowKit (wrap32 wrap64 intOf Hid Below)
open Zx

theorem hgtBm (w : World) (p b W H : Nat) (ws : Nat → Nat) (h : Bm w p b W H ws) : Calls Tryz.prog 40 #[pt p] w fun e w' => e = .returned (.int .i64 H) ∧ w = w' := by
  have c1 := h.box.cell (i := 1) (by omega)
  simp at c1
  go_enter Tryz.func40, Tryz.ntmps40
  go_wp2
  go_ret
  exact ⟨rfl, rfl⟩
theorem wdtBm (w : World) (p b W H : Nat) (ws : Nat → Nat) (h : Bm w p b W H ws) : Calls Tryz.prog 41 #[pt p] w fun e w' => e = .returned (.int .i64 W) ∧ w = w' := by
  have c0 := h.box.cell (i := 0) (by omega)
  simp at c0
  go_enter Tryz.func41, Tryz.ntmps41
  go_wp2
  go_ret
  exact ⟨rfl, rfl⟩
theorem Bm.below {w w' : World} {p b W H : Nat} {ws : Nat → Nat} (h : Bm w p b W H ws) (hb : Below w.heap.size w w') : Bm w' p b W H ws :=
  ⟨rowIs_below h.box hb h.box.lt, rowIs_below h.row hb h.row.lt, h.lt, h.w1, h.h1, h.ne⟩
/-- the writer gives a matrix of H rows of W -/
def ZzTo (w : World) (W H : Nat) (e : Ending) (w' : World) : Prop := ∃ p b ws, e = .returned (.tuple #[pt p, .nilIface]) ∧ Bm w' p b W H ws ∧ w.heap.size ≤ p ∧ w.heap.size ≤ b ∧ Below w.heap.size w w'
theorem Bm.but {w w' : World} {p b W H c : Nat} {ws : Nat → Nat} (h : Bm w p b W H ws) (hb : But (· = c) w w') (h1 : p ≠ c) (h2 : b ≠ c) : Bm w' p b W H ws :=
  ⟨hb.row h.box h1, hb.row h.row h2, h.lt, h.w1, h.h1, h.ne⟩
theorem frozen_of {w w' : World} {c : Nat} (h : w'.heap[c]? = w.heap[c]?) (hf : w.frozen? ⟨c, 0, none⟩ = false) : w'.frozen? ⟨c, 0, none⟩ = false := by
  unfold World.frozen? at hf ⊢
  rw [h]; exact hf
theorem app_below {w2 w3 w4 : World} {ob : Obj} {e : TypeId} {u u' : Value} {xs ys : List Value} (hb : Below w2.heap.size w2 w3) (ho : OwnV w3 e w2.heap.size u xs) (ha : AppTo (w3.alloc ob) w4 e w2.heap.size u u' ys) : Below w2.heap.size w2 w4 :=
  (hb.alloc hb.size ob).trans (ha.but.below (by rw [World.size_alloc]; have := hb.size; omega) (fun k hk e => by have := ho.lt e; omega))
/-- the results' cell while rows are appended -/
theorem res_keep {w1 w2 w3 w4 : World} {ob : Obj} {c : Nat} {v v' : Value} {rows ys : List Value} (ho : OwnV w2 32 w1.heap.size v rows) (hc1 : c < w1.heap.size) (h12 : w1.heap.size ≤ w2.heap.size) (hb : Below w2.heap.size w2 w3) (ha : AppTo (w3.alloc ob) w4 32 w1.heap.size v v' ys)
    (hce : w2.cell? ⟨c, 0, none⟩ = some v) (hfr : w2.frozen? ⟨c, 0, none⟩ = false) (hbt : But (· = c) w1 w2) :
    w4.cell? ⟨c, 0, none⟩ = some v ∧ w4.frozen? ⟨c, 0, none⟩ = false ∧ But (· = c) w1 w4 := by
  have hc2 : c < w2.heap.size := Nat.lt_of_lt_of_le hc1 h12
  have hc3 : c < w3.heap.size := Nat.lt_of_lt_of_le hc2 hb.size
  have e1 : w4.heap[c]? = w2.heap[c]? :=
    (ha.but.block c (by rw [World.size_alloc]; omega) (fun e => by have := ho.lt e; omega)).trans ((((Below.refl w3.heap.size w3).alloc (Nat.le_refl _) ob).block c hc3).trans (hb.block c hc2))
  exact ⟨(World.cell?_of_block (w := w2) e1).trans hce, frozen_of e1 hfr, ((hbt.thenAll hb).thenAlloc ob).trans2 ha.but (fun i hi e => by have := ho.lt e; omega)⟩
theorem rows_shape {w4 : World} {base : Nat} {v' u : Value} {rows : List Value} (h : OwnV w4 32 base v' (rows ++ [u])) : ∃ g c, v' = .slice (some ⟨g, 0, none⟩) (rows.length + 1) c := by
  rcases h.shape with ⟨_, h0⟩ | ⟨g, c, h1, _⟩
  · simp at h0
  · exact ⟨g, c, by rw [h1, List.length_append]; rfl⟩
theorem one_slice (a : Option Addr) (n c : Nat) : ∀ u ∈ [Value.slice a n c], u.oneCell' = true := by intro u hu; simp at hu; subst hu; rfl
end Go.Proofs.YtcnallabiffemaaGreatDoor
