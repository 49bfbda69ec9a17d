import Derived.Test.YtcnallabiffemaaGreatDoorM12
/- Part of the proof that a Data Matrix symbol of a text, damaged at most to half of its check codewords in each block, is decoded to the text (FnDecode): texts Y2. -/
set_option linter.unusedVariables false
set_option linter.unusedSimpArgs false
namespace Go.Proofs.YtcnallabiffemaaGreatDoor
open Go.RowKit (wrap32 wrap64 intOf Hid Below)
open Zx

theorem div_facts (R d r : Nat) (h : R / d = r) (h0 : 0 < d) (hR : R ≤ 132) : (R : Int) / (d : Int) = (r : Int) ∧ wrap64 (r : Int) = (r : Int) ∧ (¬ (d : Int) = 0) ∧ r ≤ 132 := by
  have hr : r ≤ 132 := by rw [← h]; exact Nat.le_trans (Nat.div_le_self _ _) hR
  exact ⟨by rw [← h]; simp, w64n r (Nat.le_trans hr (by decide)), fun h => Nat.lt_irrefl 0 (by rw [Int.natCast_eq_zero.1 h] at h0; exact h0), hr⟩

theorem w64_sum (a x : Nat) (ha : a ≤ 132) (hx : x ≤ 132) : wrap64 ((a : Int) + 1 + wrap64 (2 * (x : Int))) = ((a + 1 + 2 * x : Nat) : Int) := by
  rw [IntWalk.wrap64_in (2 * (x : Int)) (by omega), IntWalk.wrap64_in _ (by omega)]; omega

set_option maxHeartbeats 4000000 in
theorem whereN (w : World) (a b dn ac c d e R C rr rc row col x y : Nat) (ic : ∀ w', Calls Tryz.prog 62 #[.agg #[num a, num b, num dn, num ac, num c, num d, num e]] w' fun e w'' => e = .returned (.tuple #[num R, num C]) ∧ Below w'.heap.size w' w'')
    (f1 : (R : Int) / (dn : Int) = (rr : Int)) (v1 : wrap64 (rr : Int) = (rr : Int)) (n1 : ¬ (dn : Int) = 0) (f2 : (C : Int) / (ac : Int) = (rc : Int)) (v2 : wrap64 (rc : Int) = (rc : Int)) (n2 : ¬ (ac : Int) = 0)
    (f3 : (row : Int) / (rr : Int) = (x : Int)) (v3 : wrap64 (x : Int) = (x : Int)) (n3 : ¬ (rr : Int) = 0) (f4 : (col : Int) / (rc : Int) = (y : Int)) (v4 : wrap64 (y : Int) = (y : Int)) (n4 : ¬ (rc : Int) = 0)
    (hr : row ≤ 132) (hc : col ≤ 132) (hx : x ≤ 132) (hy : y ≤ 132) :
    Calls Tryz.prog 35 #[.agg #[num a, num b, num dn, num ac, num c, num d, num e], .int .i64 row, .int .i64 col] w fun e w' => e = .returned (.tuple #[num (row + 1 + 2 * x), num (col + 1 + 2 * y)]) ∧ Below w.heap.size w w' := by
  have z1 : Hid (∀ o, Below w.heap.size w (w.alloc o) ∧ (w.alloc o).heap.size = w.heap.size + 1) := Lib.hid fun o => ⟨(Below.refl _ _).alloc (Nat.le_refl _) o, World.size_alloc _ _⟩
  have cn : Hid (∀ a : Array Value, ∀ i, (w.alloc (.cells a 27)).cell? ⟨w.heap.size, i, none⟩ = a[i]?) := Lib.hid fun a i => World.cell?_alloc_new w _ _ i
  have IC := Lib.hid ic; clear ic
  go_enter Tryz.func35, Tryz.ntmps35
  go_wp2_with fail
  refine (IC.out _).mono ?_
  rintro e w2 ⟨rfl, hb2⟩
  have hlt : w.heap.size < (w.alloc (.cells #[num a, num b, num dn, num ac, num c, num d, num e] 27)).heap.size := by rw [(z1.out _).2]; exact Nat.lt_succ_self _
  have d02 := (hb2.cell (p := ⟨w.heap.size, 2, none⟩) hlt).trans (cn.out _ 2)
  have d03 := (hb2.cell (p := ⟨w.heap.size, 3, none⟩) hlt).trans (cn.out _ 3)
  simp only [List.getElem?_toArray, List.getElem?_cons_zero, List.getElem?_cons_succ] at d02 d03
  have B2 := Lib.hid ((z1.out _).1.trans (hb2.mono (by rw [(z1.out _).2]; exact Nat.le_succ _))); clear hb2 hlt
  have F3 := Lib.hid (And.intro f3 (And.intro v3 (And.intro n3 (And.intro f4 (And.intro v4 n4))))); clear f3 v3 n3 f4 v4 n4
  go_wp2_with fail
  go_quiet (fail)
  clear f1 n1 f2 n2 d02 d03
  obtain ⟨f3, v3, n3, f4, v4, n4⟩ := F3.out
  clear F3
  go_wp2_with fail
  go_quiet (fail)
  go_wp2
  clear f3 v3 n3 f4 v4 n4 v1 v2
  go_ret2
  exact ⟨ret_ii (by first | exact w64_sum row x hr hx | omega) (by first | exact w64_sum col y hc hy | omega), (B2.out.trans (below_dn _ _ _)).trans (below_dn _ _ _)⟩

theorem whereC (w : World) (s : Sym) (hf : SymFine s) (row col : Nat) (hr : row < s.R) (hc : col < s.C) : Calls Tryz.prog 35 #[sv s, .int .i64 row, .int .i64 col] w fun e w' => e = .returned (.tuple #[num (row + 1 + 2 * (row / s.rr)), num (col + 1 + 2 * (col / s.rc))]) ∧ Below w.heap.size w w' := by
  have hR := sum_R hf
  have hge := hf.ge
  have h5 := hf.rw_.2.2.2.2
  have a1 : s.R ≤ 132 := by omega
  have a2 : s.C ≤ 132 := by omega
  have f1 := div_facts s.R s.down s.rr rfl h5.2.2.1 a1
  have f2 := div_facts s.C s.across s.rc rfl h5.2.2.2 a2
  have f3 := div_facts row s.rr _ rfl h5.1 (Nat.le_trans (Nat.le_of_lt hr) a1)
  have f4 := div_facts col s.rc _ rfl h5.2.1 (Nat.le_trans (Nat.le_of_lt hc) a2)
  exact whereN w _ _ _ _ _ _ _ s.R s.C s.rr s.rc row col _ _ (fun w' => innerC w' s hf) f1.1 f1.2.1 f1.2.2.1 f2.1 f2.2.1 f2.2.2.1 f3.1 f3.2.1 f3.2.2.1 f4.1 f4.2.1 f4.2.2.1 (Nat.le_trans (Nat.le_of_lt hr) a1) (Nat.le_trans (Nat.le_of_lt hc) a2) f3.2.2.2 f4.2.2.2
end Go.Proofs.YtcnallabiffemaaGreatDoor
