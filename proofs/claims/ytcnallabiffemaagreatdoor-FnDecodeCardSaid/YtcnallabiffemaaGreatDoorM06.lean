import Derived.Laws.IdiomStrings
import Derived.Deep.LoopGhost
import Derived.Handy
import Derived.Deep.RegionLaw
import Derived.Deep.AppendLies
import Derived.Deep.Cut
import Derived.Deep.CutRange
import Derived.Test.YtcnallabiffemaaGreatDoorM02
import Derived.Test.YtcnallabiffemaaGreatDoorM03
import Derived.Test.YtcnallabiffemaaGreatDoorM05
/- Part of the proof that a Data Matrix symbol of a text, damaged at most to half of its check codewords in each block, is decoded to the text (FnDecode): texts S2 Eb V1 V4 S3 T1 V6 V5 V7 Pl Pm. -/
set_option linter.unusedVariables false
set_option linter.unusedSimpArgs false
namespace Go.Proofs.YtcnallabiffemaaGreatDoor
open Go.RowKit (wrap32 wrap64 intOf Hid Below)
open Zx

/-- a literal of bytes -/
theorem row_lit (w : World) (c : Array Value) (n : Nat) (f : Nat → Value) (h : c = ((List.range n).map f).toArray) : (w.alloc (.cells c 5)).rowIs w.heap.size 5 n f := by
  have := World.rowIs_alloc w c 5 f (fun i hi => by subst h; simp at hi; simp [hi])
  rwa [show c.size = n by rw [h]; simp] at this

def TabTo (w : World) (n : Nat) (f : Nat → Nat) (e : Ending) (w' : World) : Prop :=
  e = .returned (.slice (some ⟨w.heap.size, 0, none⟩) n n) ∧ w'.rowIs w.heap.size 5 n (fun v => byt (f v)) ∧ Below w.heap.size w w'
theorem tabC (w : World) : Calls Tryz.prog 179 #[] w (TabTo w 40 (fun v => if v < 3 then 42 else bas3 2 v)) := by
  go_enter Tryz.func179, Tryz.ntmps179
  go_wp2
  go_ret
  exact ⟨rfl, row_lit _ _ _ _ rfl, (Below.refl _ _).alloc (Nat.le_refl _) _⟩
theorem tabS (w : World) : Calls Tryz.prog 180 #[] w (TabTo w 27 sh2) := by
  go_enter Tryz.func180, Tryz.ntmps180
  go_wp2
  go_ret
  exact ⟨rfl, row_lit _ _ _ _ rfl, (Below.refl _ _).alloc (Nat.le_refl _) _⟩
theorem tabT (w : World) : Calls Tryz.prog 181 #[] w (TabTo w 40 (fun v => if v < 3 then 42 else bas3 3 v)) := by
  go_enter Tryz.func181, Tryz.ntmps181
  go_wp2
  go_ret
  exact ⟨rfl, row_lit _ _ _ _ rfl, (Below.refl _ _).alloc (Nat.le_refl _) _⟩
theorem tabU (w : World) : Calls Tryz.prog 182 #[] w (TabTo w 32 (sh3 3)) := by
  go_enter Tryz.func182, Tryz.ntmps182
  go_wp2
  go_ret
  exact ⟨rfl, row_lit _ _ _ _ rfl, (Below.refl _ _).alloc (Nat.le_refl _) _⟩

/-- '[]byte(s)' -/
theorem bytesOf (w : World) (s : ByteArray) : (convert 9 32 (.string s)).run Tryz.prog w = .ok (.slice (some ⟨w.heap.size, 0, none⟩) s.size (grownCap w s.size 0 5))
      (w.drew.alloc (.cells (bytesRow s (grownCap w s.size 0 5)) 5 ((bytesRow s (grownCap w s.size 0 5)).size, (bytesRow s (grownCap w s.size 0 5)).size + 1))) :=
  run_bytes_of_string w 9 32 5 s Tryz.underlying9 Tryz.underlying32 Tryz.underlying5
/-- a text's characters -/
def chs (s : ByteArray) : List Nat := s.data.toList.map UInt8.toNat
theorem bytes_cells (w : World) (s : ByteArray) (cap : Nat) (x : Nat × Nat) : ∀ j u, ((chs s).map byt)[j]? = some u → (w.alloc (.cells (bytesRow s cap) 5 x)).cell? ((⟨w.heap.size, 0, none⟩ : Addr).add j) = some u := by
  intro j u hu
  have hj : j < s.data.size := by
    have := List.getElem?_eq_some_iff.1 hu
    simpa [chs] using this.1
  rw [addr_add, Nat.zero_add, cell_of_row _ _ _ _ _ _ (heap_alloc_new w _), bytesRow_at s cap j hj]
  simp only [chs, List.getElem?_map, Option.map_map, Array.getElem?_toList, Option.map_eq_some_iff] at hu
  obtain ⟨a, h1, h2⟩ := hu
  rw [Array.getElem?_eq_getElem hj] at h1
  cases h1
  exact congrArg some h2
theorem chs_len (s : ByteArray) : (chs s).length = s.size := by simp [chs]
end Go.Proofs.YtcnallabiffemaaGreatDoor
namespace Go.Proofs.YtcnallabiffemaaGreatDoor
open Go.RowKit (wrap32 wrap64 intOf Hid Below)
open Zx

theorem chs_at (s : ByteArray) (i : Nat) (h : i < s.size) : (chs s)[i]? = some (s[i]).toNat := by
  have h2 : i < s.data.toList.length := by simpa using h
  unfold chs
  rw [List.getElem?_map, List.getElem?_eq_getElem h2]
  rfl
theorem take_snoc (s : ByteArray) (i : Nat) (h : i < s.size) : (chs s).take (i + 1) = (chs s).take i ++ [(s[i]).toNat] := by rw [List.take_add_one, chs_at s i h]; rfl
theorem row_litT (w : World) (c : Array Value) (t : TypeId) (n : Nat) (f : Nat → Value) (h : c = ((List.range n).map f).toArray) : (w.alloc (.cells c t)).rowIs w.heap.size t n f := by
  have := World.rowIs_alloc w c t f (fun i hi => by subst h; simp at hi; simp [hi])
  rwa [show c.size = n by rw [h]; simp] at this
theorem But.trans2 {S T : Nat → Prop} {w w' w'' : World} (h : But S w w') (k : But T w' w'') (hs : ∀ i, i < w.heap.size → T i → S i) : But S w w'' :=
  ⟨k.os.trans h.os, k.tape.trans h.tape, k.output.trans h.output, Nat.le_trans h.size k.size, fun i hi hn => (k.block i (Nat.lt_of_lt_of_le hi h.size) (fun t => hn (hs i hi t))).trans (h.block i hi hn)⟩
end Go.Proofs.YtcnallabiffemaaGreatDoor
namespace Go.Proofs.YtcnallabiffemaaGreatDoor
open Go.RowKit (wrap32 wrap64 intOf Hid Below)
open Zx

/-! the reference's functions on texts -/
theorem randC (w : World) (p m : Nat) (hp : p ≤ 1000000) (hm : 1 ≤ m ∧ m ≤ 1000) : Calls Tryz.prog 48 #[.int .i64 p, .int .i64 m] w fun e w' => e = .returned (.int .i64 (149 * p % m + 1 : Nat)) ∧ w = w' := by
  obtain ⟨q, hq⟩ : ∃ q : Nat, 149 * p % m = q := ⟨_, rfl⟩
  have hq1 : q < m := by rw [← hq]; exact Nat.mod_lt _ (by omega)
  have m1 : (149 : Int) * (p : Int) % (m : Int) = (q : Int) := by rw [← hq]; simp
  have l1 : (149 : Int) * (p : Int) ≤ 149000000 := by omega
  rw [hq]
  clear hq
  go_enter Tryz.func48, Tryz.ntmps48
  go_wp2
  go_ret
  exact ⟨ret_int (by omega), rfl⟩

def padN (p : Nat) : Nat := if 129 + (149 * p % 253 + 1) > 254 then 129 + (149 * p % 253 + 1) - 254 else 129 + (149 * p % 253 + 1)
theorem padN_lt (p : Nat) : padN p < 256 := by unfold padN; split <;> omega
theorem padC (w : World) (p : Nat) (hp : p ≤ 1000000) : Calls Tryz.prog 22 #[.int .i64 p] w fun e w' => e = .returned (.int .i64 (padN p)) ∧ w = w' := by
  obtain ⟨q, hq⟩ : ∃ q : Nat, 149 * p % 253 + 1 = q := ⟨_, rfl⟩
  have hq1 : q ≤ 253 := by omega
  have hpd : padN p = if 129 + q > 254 then 129 + q - 254 else 129 + q := by unfold padN; rw [hq]
  have HP := Lib.hid hpd; clear hpd
  have rc := randC w p 253 hp (by omega)
  rw [hq, show ((253 : Nat) : Int) = 253 from rfl] at rc
  clear hq
  go_enter Tryz.func22, Tryz.ntmps22
  go_wp2_with fail
  refine rc.mono ?_
  rintro e w' ⟨rfl, hw⟩
  obtain rfl := hw
  clear rc
  by_cases h : 129 + q > 254
  · go_wp2
    go_ret
    exact ⟨ret_int (by rw [HP.out, if_pos h]; omega), rfl⟩
  · go_wp2
    go_ret
    exact ⟨ret_int (by rw [HP.out, if_neg h]; omega), rfl⟩

theorem ret_bb {a b : Int} {c d : Bool} (h : a = b) (h2 : c = d) : Ending.returned (.tuple #[.int .u8 a, .bool c]) = .returned (.tuple #[.int .u8 b, .bool d]) := by rw [h, h2]
theorem basicC (w : World) (mode v : Nat) (hm : 1 ≤ mode ∧ mode ≤ 3) (hv : v < 40) : Calls Tryz.prog 75 #[.int .i64 mode, .int .i64 v] w fun e w' => e = .returned (.tuple #[byt (basB (mode + 1) v).1, .bool (basB (mode + 1) v).2]) ∧ w = w' := by
  have hx : mode = 1 ∨ mode = 2 ∨ mode = 3 := by omega
  by_cases h4 : v < 4
  · have hv4 : v = 0 ∨ v = 1 ∨ v = 2 ∨ v = 3 := by omega
    rcases hx with rfl | rfl | rfl <;> rcases hv4 with rfl | rfl | rfl | rfl
    all_goals
      go_enter Tryz.func75, Tryz.ntmps75
      go_wp2
      go_ret2
      exact ⟨rfl, rfl⟩
  · by_cases h14 : v < 14
    · have e1 : basB (mode + 1) v = (v + 44, true) := by unfold basB; rw [if_neg (by omega), if_neg (by omega), if_neg (by omega), if_pos h14]
      rw [e1]
      clear e1
      have q3 := int_bf (a := (v : Int)) (b := 3) (by omega)
      rcases hx with rfl | rfl | rfl
      all_goals
        go_enter Tryz.func75, Tryz.ntmps75
        go_wp2
        go_ret2
        exact ⟨ret_bb (by omega) (by first | rfl | (simp; done) | (simp; omega)), rfl⟩
    · have q3 := int_bf (a := (v : Int)) (b := 3) (by omega)
      rcases hx with rfl | rfl | rfl
      · have e1 : basB (1 + 1) v = (v + 51, true) := by unfold basB; rw [if_neg (by omega), if_neg (by omega), if_neg (by omega), if_neg h14, if_neg (by omega), decide_eq_true hv]
        rw [e1]
        clear e1
        go_enter Tryz.func75, Tryz.ntmps75
        go_wp2
        go_ret2
        exact ⟨ret_bb (by omega) (by first | rfl | (simp; done) | (simp; omega)), rfl⟩
      · have e1 : basB (2 + 1) v = (v + 83, true) := by unfold basB; rw [if_neg (by omega), if_neg (by omega), if_neg (by omega), if_neg h14, if_pos (by omega), decide_eq_true hv]
        rw [e1]
        clear e1
        go_enter Tryz.func75, Tryz.ntmps75
        go_wp2
        go_ret2
        exact ⟨ret_bb (by omega) (by first | rfl | (simp; done) | (simp; omega)), rfl⟩
      · have e1 : basB (3 + 1) v = (v + 51, true) := by unfold basB; rw [if_neg (by omega), if_neg (by omega), if_neg (by omega), if_neg h14, if_neg (by omega), decide_eq_true hv]
        rw [e1]
        clear e1
        go_enter Tryz.func75, Tryz.ntmps75
        go_wp2
        go_ret2
        exact ⟨ret_bb (by omega) (by first | rfl | (simp; done) | (simp; omega)), rfl⟩
end Go.Proofs.YtcnallabiffemaaGreatDoor
namespace Go.Proofs.YtcnallabiffemaaGreatDoor
open Go.RowKit (wrap32 wrap64 intOf Hid Below)
open Zx


theorem chs_get (s : ByteArray) (i : Nat) (h : i < s.size) : (chs s).getD i 0 = (s[i]).toNat := by
  rw [List.getD_eq_getElem?_getD, chs_at s i h]; rfl
def digB (l : List Nat) (i : Nat) : Bool := decide (i + 1 < l.length ∧ isDig (l.getD i 0) ∧ isDig (l.getD (i + 1) 0))

theorem digC (w : World) (s : ByteArray) (i : Nat) (hs : s.size ≤ 100000) (hi : i < s.size) : Calls Tryz.prog 47 #[.string s, .int .i64 i] w fun e w' => e = .returned (.bool (digB (chs s) i)) ∧ w = w' := by
  by_cases h1 : i + 1 < s.size
  · have e0 := chs_get s i hi
    have e1 := chs_get s (i + 1) h1
    obtain ⟨a, ha⟩ : ∃ a, (s[i]).toNat = a := ⟨_, rfl⟩
    obtain ⟨b, hb⟩ : ∃ b, (s[i + 1]).toNat = b := ⟨_, rfl⟩
    rw [ha] at e0
    rw [hb] at e1
    have hd : digB (chs s) i = decide (isDig a ∧ isDig b) := by
      unfold digB
      rw [e0, e1, chs_len]
      by_cases h : isDig a ∧ isDig b
      · rw [decide_eq_true h, decide_eq_true ⟨h1, h⟩]
      · rw [decide_eq_false h, decide_eq_false (fun h2 => h h2.2)]
    rw [hd]
    clear hd e0 e1
    unfold isDig
    by_cases c1 : 48 ≤ a
    · by_cases c2 : a ≤ 57
      · by_cases c3 : 48 ≤ b
        · by_cases c4 : b ≤ 57
          · rw [decide_eq_true ⟨⟨c1, c2⟩, c3, c4⟩]
            go_enter Tryz.func47, Tryz.ntmps47
            go_wp2
            go_ret
            exact ⟨by first | rfl | (congr 2; simp; omega), rfl⟩
          · rw [decide_eq_false (by omega)]
            go_enter Tryz.func47, Tryz.ntmps47
            go_wp2
            go_ret
            exact ⟨by first | rfl | (congr 2; simp; omega), rfl⟩
        · rw [decide_eq_false (by omega)]
          go_enter Tryz.func47, Tryz.ntmps47
          go_wp2
          go_ret
          exact ⟨by first | rfl | (congr 2; simp; omega), rfl⟩
      · rw [decide_eq_false (by omega)]
        go_enter Tryz.func47, Tryz.ntmps47
        go_wp2
        go_ret
        exact ⟨by first | rfl | (congr 2; simp; omega), rfl⟩
    · rw [decide_eq_false (by omega)]
      go_enter Tryz.func47, Tryz.ntmps47
      go_wp2
      go_ret
      exact ⟨by first | rfl | (congr 2; simp; omega), rfl⟩
  · have hd : digB (chs s) i = false := by unfold digB; rw [chs_len, decide_eq_false (by omega)]
    rw [hd]
    clear hd
    go_enter Tryz.func47, Tryz.ntmps47
    go_wp2
    go_ret
    exact ⟨by first | rfl | (congr 2; simp; omega), rfl⟩
end Go.Proofs.YtcnallabiffemaaGreatDoor
namespace Go.Proofs.YtcnallabiffemaaGreatDoor
open Go.RowKit (wrap32 wrap64 intOf Hid Below)
open Zx

theorem dec2 (i : Nat) (h : i < 100) : (Lib.decDigits i).map UInt8.toNat = if i < 10 then [i + 48] else [i / 10 + 48, i % 10 + 48] := by
  by_cases h1 : i < 10
  · rw [Lib.decDigits_one h1, if_pos h1]
    simp; omega
  · rw [Lib.decDigits_two h1 h, if_neg h1]
    simp; omega

theorem dAsc_cons (b : Nat) (r : List Nat) : dAsc (b :: r) =
    if b = 0 then none
    else if b ≤ 128 then some (1, [b - 1], 1)
    else if b = 129 then some (0, [], 1)
    else if b ≤ 229 then (dAsc r).map fun x => (x.1, ((b - 130) / 10 + 48) :: ((b - 130) % 10 + 48) :: x.2.1, x.2.2 + 1)
    else if b = 230 then some (2, [], 1)
    else if b = 231 then some (6, [], 1)
    else if b = 238 then some (4, [], 1)
    else if b = 239 then some (3, [], 1)
    else if b = 240 then some (5, [], 1)
    else none := by rw [dAsc]

/-- where a run of ASCII stands -/
def AscAt (d : Nat → Nat) (n i m : Nat) (out : List Nat) (k j : Nat) (acc : List Nat) : Prop := ∃ out' k', i ≤ j ∧ j ≤ n ∧ dAsc (ds d n j) = some (m, out', k') ∧ out = acc ++ out' ∧ k = (j - i) + k'

theorem AscAt.le {d : Nat → Nat} {n i m k j : Nat} {out acc : List Nat} (h : AscAt d n i m out k j acc) : i ≤ j ∧ j ≤ n := by
  obtain ⟨_, _, h1, h2, _⟩ := h; exact ⟨h1, h2⟩
theorem AscAt.pair {d : Nat → Nat} {n i m k j : Nat} {out acc : List Nat} (h : AscAt d n i m out k j acc) (hj : j < n) (h1 : 130 ≤ d j) (h2 : d j ≤ 229) :
    AscAt d n i m out k (j + 1) (acc ++ [(d j - 130) / 10 + 48, (d j - 130) % 10 + 48]) := by
  obtain ⟨out', k', h3, h4, h5, rfl, rfl⟩ := h
  rw [ds_cons d n j hj, dAsc_cons, if_neg (by omega), if_neg (by omega), if_neg (by omega), if_pos h2] at h5
  cases h6 : dAsc (ds d n (j + 1)) with
  | none => rw [h6] at h5; cases h5
  | some x =>
    rw [h6] at h5
    have h7 := Option.some.inj h5
    have h8 : x.1 = m := congrArg (fun x => x.1) h7
    have h9 : _ = out' := congrArg (fun x => x.2.1) h7
    have h10 : x.2.2 + 1 = k' := congrArg (fun x => x.2.2) h7
    subst h8 h9 h10
    exact ⟨x.2.1, x.2.2, by omega, hj, by rw [h6], by simp, by omega⟩
theorem AscAt.last {d : Nat → Nat} {n i m k j : Nat} {out acc : List Nat} (h : AscAt d n i m out k j acc) (hj : j < n) {m' k' : Nat} {o' : List Nat} (he : dAsc (d j :: ds d n (j + 1)) = some (m', o', k')) :
    m = m' ∧ out = acc ++ o' ∧ i + k = j + k' := by
  obtain ⟨out', k2, h3, h4, h5, rfl, rfl⟩ := h
  rw [ds_cons d n j hj] at h5
  have h7 := Option.some.inj (he.symm.trans h5)
  have h8 : m' = m := congrArg (fun x => x.1) h7
  have h9 : o' = out' := congrArg (fun x => x.2.1) h7
  have h10 : k' = k2 := congrArg (fun x => x.2.2) h7
  subst h8 h9 h10
  exact ⟨rfl, rfl, by omega⟩
theorem AscAt.end_ {d : Nat → Nat} {n i m k : Nat} {out acc : List Nat} (h : AscAt d n i m out k n acc) : m = 1 ∧ out = acc ∧ i + k = n := by
  obtain ⟨out', k2, h3, h4, h5, rfl, rfl⟩ := h
  rw [ds_nil d n n (Nat.le_refl _)] at h5
  have h7 := Option.some.inj h5
  have h8 : 1 = m := congrArg (fun x => x.1) h7
  have h9 : [] = out' := congrArg (fun x => x.2.1) h7
  have h10 : 0 = k2 := congrArg (fun x => x.2.2) h7
  subst h8 h9 h10
  exact ⟨rfl, by simp, by omega⟩
theorem AscAt.low {d : Nat → Nat} {n i m k j : Nat} {out acc : List Nat} (h : AscAt d n i m out k j acc) (hj : j < n) (h1 : d j ≠ 0) (h2 : d j ≤ 128) : m = 1 ∧ out = acc ++ [d j - 1] ∧ i + k = j + 1 :=
  h.last hj (by rw [dAsc_cons, if_neg h1, if_pos h2])
theorem AscAt.pad {d : Nat → Nat} {n i m k j : Nat} {out acc : List Nat} (h : AscAt d n i m out k j acc) (hj : j < n) (h1 : d j = 129) : m = 0 ∧ out = acc ∧ i + k = j + 1 := by
  have := h.last hj (m' := 0) (o' := []) (k' := 1) (by rw [dAsc_cons, h1]; rfl)
  simpa using this
theorem AscAt.latch {d : Nat → Nat} {n i m k j : Nat} {out acc : List Nat} (h : AscAt d n i m out k j acc) (hj : j < n) (b c : Nat) (h1 : d j = b) (hb : (b = 230 ∧ c = 2) ∨ (b = 231 ∧ c = 6) ∨ (b = 238 ∧ c = 4) ∨ (b = 239 ∧ c = 3) ∨ (b = 240 ∧ c = 5)) :
    m = c ∧ out = acc ∧ i + k = j + 1 := by
  have := h.last hj (m' := c) (o' := []) (k' := 1) (by
    rw [dAsc_cons, h1]
    rcases hb with ⟨rfl, rfl⟩ | ⟨rfl, rfl⟩ | ⟨rfl, rfl⟩ | ⟨rfl, rfl⟩ | ⟨rfl, rfl⟩ <;> rfl)
  simpa using this
theorem AscAt.fine {d : Nat → Nat} {n i m k j : Nat} {out acc : List Nat} (h : AscAt d n i m out k j acc) (hj : j < n) : d j ≠ 0 ∧ (d j ≤ 231 ∨ d j = 238 ∨ d j = 239 ∨ d j = 240) := by
  obtain ⟨out', k2, h3, h4, h5, rfl, rfl⟩ := h
  rw [ds_cons d n j hj, dAsc_cons] at h5
  refine ⟨fun h0 => ?_, Classical.byContradiction fun h0 => ?_⟩
  · rw [if_pos h0] at h5; cases h5
  · rw [if_neg (by omega), if_neg (by omega), if_neg (by omega), if_neg (by omega), if_neg (by omega), if_neg (by omega), if_neg (by omega), if_neg (by omega), if_neg (by omega)] at h5; cases h5
end Go.Proofs.YtcnallabiffemaaGreatDoor
namespace Go.Proofs.YtcnallabiffemaaGreatDoor
open Go.RowKit (wrap32 wrap64 intOf Hid Below)
open Zx

/-- a slice of the call's own is turned into another one -/
structure OwnTo (w w' : World) (e : TypeId) (base : Nat) (v v' : Value) (xs : List Value) : Prop where
  own : OwnV w' e base v' xs
  but : But (fun b => v.ownBlock = some b) w w'
  at_ : v'.ownBlock = v.ownBlock ∨ ∃ b, v'.ownBlock = some b ∧ w.heap.size ≤ b

theorem AppTo.to {w w' : World} {e : TypeId} {base : Nat} {v v' : Value} {xs : List Value} (h : AppTo w w' e base v v' xs) : OwnTo w w' e base v v' xs :=
  ⟨h.own, h.but, h.at_.imp id fun h1 => ⟨_, h1, Nat.le_refl _⟩⟩
theorem AppTo.toA {w w' : World} {ob : Obj} {e : TypeId} {base : Nat} {v v' : Value} {xs : List Value} (h : AppTo (w.alloc ob) w' e base v v' xs) : OwnTo w w' e base v v' xs :=
  ⟨h.own, ((But.refl _ w).thenAlloc ob).trans h.but, h.at_.imp id fun h1 => ⟨_, h1, by rw [World.size_alloc]; omega⟩⟩
theorem OwnTo.refl {w : World} {e : TypeId} {base : Nat} {v : Value} {xs : List Value} (h : OwnV w e base v xs) : OwnTo w w e base v v xs := ⟨h, But.refl _ _, .inl rfl⟩
theorem OwnTo.trans {w w1 w2 : World} {e : TypeId} {base : Nat} {v v1 v2 : Value} {xs ys : List Value} (h : OwnTo w w1 e base v v1 xs) (k : OwnTo w1 w2 e base v1 v2 ys) : OwnTo w w2 e base v v2 ys := by
  refine ⟨k.own, ?_, ?_⟩
  · refine ⟨k.but.os.trans h.but.os, k.but.tape.trans h.but.tape, k.but.output.trans h.but.output, Nat.le_trans h.but.size k.but.size, fun b hb hn => ?_⟩
    rw [k.but.block b (Nat.lt_of_lt_of_le hb h.but.size) (fun hv => ?_), h.but.block b hb hn]
    rcases h.at_ with h1 | ⟨c, h1, h2⟩
    · exact hn (h1.symm.trans hv)
    · rw [h1] at hv; cases hv; omega
  · rcases k.at_ with h1 | ⟨c, h1, h2⟩
    · rw [h1]; exact h.at_
    · exact .inr ⟨c, h1, Nat.le_trans h.but.size h2⟩
/-- what is below what is owned is as it was -/
theorem OwnTo.below {w w' : World} {e : TypeId} {base : Nat} {v v' : Value} {xs ys : List Value} (h : OwnTo w w' e base v v' ys) (h0 : OwnV w e base v xs) (hb : base ≤ w.heap.size) : Below base w w' :=
  h.but.below hb fun k hk hv => by have := (h0.lt hv).1; omega

/-- two steps: the second one writes blocks that the first one may write, or new ones -/
theorem But.trans' {S T : Nat → Prop} {w w' w'' : World} (h : But S w w') (hs : ∀ b, b < w.heap.size → T b → S b) (k : But T w' w'') : But S w w'' :=
  ⟨k.os.trans h.os, k.tape.trans h.tape, k.output.trans h.output, Nat.le_trans h.size k.size, fun b hb hn => (k.block b (Nat.lt_of_lt_of_le hb h.size) (fun ht => hn (hs b hb ht))).trans (h.block b hb hn)⟩
theorem conv_rune (c : Nat) (h : c < 128) : IntKind.u32.wrap (c : Int) = (c : Int) ∧ IntKind.u8.wrap (c : Int) = (c : Int) ∧ IntKind.i32.wrap (c : Int) = (c : Int) := by
  refine ⟨?_, ?_, ?_⟩
  · rw [IntKind.wrap_u32]; omega
  · exact wraps_u8 _ (by omega) (by omega)
  · rw [IntKind.wrap_i32]; omega

theorem appRune (w : World) (base c : Nat) (v : Value) (l : List Nat) (h : OwnB w base v l) (hc : c < 128) (hl : l.length ≤ 100000) (hb : base ≤ w.heap.size) :
    Calls Tryz.prog 222 #[v, .int .i32 c] w fun e w' => ∃ v', e = .returned v' ∧ OwnTo w w' 5 base v v' ((l ++ [c]).map byt) := by
  have H := Lib.hid h; clear h
  have hcv := conv_rune c hc
  have HCV := Lib.hid hcv; clear hcv
  go_enter Tryz.func222, Tryz.ntmps222
  go_wp2_with (at_builtin; refine wpList_appV rfl (.tmp 8) (.tmp 11) 32 5 rfl Tryz.underlying32 (.int .u8 0) 1 infoB rfl (by decide) base v (l.map byt) rfl (H.out.below ((Below.refl _ _).alloc (Nat.le_refl _) _)) ⟨w.heap.size, 0, none⟩ 1 1 [_] rfl rfl (cell_one_new _ _ _) (one_u8 _) (by rw [List.length_map]; omega) (by rw [World.size_alloc]; omega) ?_)
  intro v' w1 H1
  have H2 := Lib.hid H1.out.toA; clear H1
  go_wp2
  go_ret
  refine ⟨v', rfl, ?_⟩
  rw [List.map_append]
  exact H2.out

def OctTo (w : World) (l : List Nat) (e : Ending) (w' : World) : Prop := ∃ v, e = .returned (.tuple #[v, .nilIface]) ∧ OwnB w' w.heap.size v l ∧ Below w.heap.size w w'
set_option maxRecDepth 100000 in
theorem zzDec (w : World) (b n : Nat) (f : Nat → Nat) (hr : w.rowIs b 5 n (fun i => byt (f i))) (hf : ∀ i, i < n → f i < 128) (hn : n ≤ 50000) :
    Calls Tryz.prog 186 #[.int .i64 1, .slice none 0 0, .slice (some ⟨b, 0, none⟩) n n] w (OctTo w ((List.range n).map f)) := by
  have HR := Lib.hid hr
  have hblt := hr.lt
  clear hr
  have HF := Lib.hid hf; clear hf
  go_enter Tryz.func186, Tryz.ntmps186
  go_wp2_with fail
  go_loopw [1, 31] (fun v1 k wr => ∃ (x : Value) (t : Nat), x = v1 ∧ t ≤ n ∧ k = .int .i64 t ∧ OwnB wr w.heap.size x ((List.range t).map f) ∧ Below w.heap.size w wr) (fun _ k _ => n - (intOf k).toNat)
  case atStart => exact ⟨_, 0, rfl, Nat.zero_le _, rfl, OwnV.nil _ _ _, Below.refl _ _⟩
  case round =>
    obtain ⟨v1, t, rfl, ht, rfl, hown, hbel⟩ := hrel
    have HB := Lib.hid hbel; clear hbel
    have HO := Lib.hid hown; clear hown
    by_cases htn : t < n
    · have hf1 := HF.out t htn
      have hc := (HB.out.cell (p := ⟨b, t, none⟩) hblt).trans (HR.out.cell htn)
      obtain ⟨c, hc'⟩ : ∃ c, f t = c := ⟨_, rfl⟩
      rw [hc'] at hf1 hc
      have HC := Lib.hid hc'; clear hc'
      have hcv := conv_rune c hf1
      obtain ⟨hcv1, hcv2, hcv3⟩ := hcv
      go_wp2_with fail
      refine (appRune wr w.heap.size c v1 _ HO.out hf1 (by simp; omega) HB.out.size).mono ?_
      rintro e w2 ⟨v', rfl, h2⟩
      have H2 := Lib.hid h2; clear h2
      go_wp2
      go_roundw
      case rel => exact ⟨v', t + 1, rfl, htn, by go_num, by rw [List.range_succ, List.map_append, List.map_singleton, HC.out]; exact H2.out.own, HB.out.trans (H2.out.below HO.out HB.out.size)⟩
      case measure => simp [intOf]; omega
    · obtain rfl : t = n := by omega
      go_wp2
      go_ret2
      exact ⟨v1, rfl, HO.out, HB.out⟩
end Go.Proofs.YtcnallabiffemaaGreatDoor
namespace Go.Proofs.YtcnallabiffemaaGreatDoor
open Go.RowKit (wrap32 wrap64 intOf Hid Below)
open Zx

theorem step_appV {ops : Array Oper} {o : Oper} {a : Act} {K : Act → World → Prop} {Q : Exit → Act → World → Prop} {E : Prop} {w : World} (hgd : o.guard = none) (s x : Operand) (t e : TypeId)
    (ho : o.op = .call { callee := .builtin .append, args := #[s, x], argTypes := #[t, t] }) (ht : Tryz.prog.underlying t = some (.slice e)) (z : Value) (bytes : Nat)
    (hinf : (Tryz.prog.info? e).map (fun i => (i.zero, i.size, i.bytes)) = some (some z, 1, bytes)) (hzs : z.cells.size = 1) (hb8 : bytes ≤ 100)
    (base : Nat) (v : Value) (xs : List Value) (hs : a.eval s = v) (hown : OwnV w e base v xs) (ad : Addr) (m c : Nat) (news : List Value) (hx : a.eval x = .slice (some ad) m c) (hl : news.length = m)
    (hnews : ∀ j u, news[j]? = some u → w.cell? (ad.add j) = some u) (h1 : ∀ u ∈ news, u.oneCell' = true) (hlen : xs.length + m ≤ 1000000) (hbase : base ≤ w.heap.size)
    (h : ∀ v' w', Hid (AppTo w w' e base v v' (xs ++ news)) → K (a.put o.dst v') w') :
    if Region.wanted o (yielded ops a.tmps) = true then Oper.wp Tryz.prog o a w K Q else E := by
  have hw : Region.wanted o (yielded ops a.tmps) = true := by simp [Region.wanted, hgd]
  rw [if_pos hw]
  obtain ⟨i, hi, hz⟩ := Option.map_eq_some_iff.1 hinf
  simp only [Prod.mk.injEq] at hz
  have hbm : (xs.length + m) * bytes ≤ 1000000 * 100 := Nat.mul_le_mul hlen hb8
  obtain ⟨v', w', hr, h2, h3, _, h5⟩ := run_append_own_at (P := Tryz.prog) w base t o.type e i z 1 bytes ht hi hz.1 hz.2.1 hz.2.2 hzs (by decide) v xs.length xs hown ad m c news (by rw [hl, Nat.mul_one]) hnews h1 (by unfold maxLen; omega) (by omega) hbase
  unfold Oper.wp execOp
  simp only [ho, resolve, invoke, builtin, Sem.run_bind, Sem.run_pure, Result.andThen_ok, List.map_toArray, List.map_cons, List.map_nil, hs, hx, hr]
  exact h v' w' (Lib.hid ⟨by unfold OwnV; rw [List.length_append, hl]; exact h2, ⟨h3.os, h3.tape, h3.output, h3.size, fun k hk hn => h3.block k hk (fun e => hn e.symm)⟩, h5⟩)
theorem cell_one_newD (w : World) (x : Value) (t : TypeId) (m : Nat) : ∀ j u, [x][j]? = some u → ((w.alloc (.cells #[x] t)).drewN m).cell? ((⟨w.heap.size, 0, none⟩ : Addr).add j) = some u := cell_one_new w x t
end Go.Proofs.YtcnallabiffemaaGreatDoor
namespace Go.Proofs.YtcnallabiffemaaGreatDoor
open Go.RowKit (wrap32 wrap64 intOf Hid Below)
open Zx

theorem drop_get (l : List Nat) (i : Nat) (h : i < l.length) : l.drop i = l.getD i 0 :: l.drop (i + 1) := by
  rw [List.drop_eq_getElem_cons h, List.getD_eq_getElem?_getD, List.getElem?_eq_getElem h]; rfl
theorem pAsc_two (l : List Nat) (i : Nat) (h : i < l.length) (hd : digB l i = true) : pAsc (l.drop i) = (130 + (l.getD i 0 - 48) * 10 + (l.getD (i + 1) 0 - 48)) :: pAsc (l.drop (i + 2)) := by
  have h2 := of_decide_eq_true hd
  rw [drop_get l i h, drop_get l (i + 1) h2.1, pAsc, if_pos h2.2]
theorem pAsc_one (l : List Nat) (i : Nat) (h : i < l.length) (hd : digB l i = false) : pAsc (l.drop i) = (l.getD i 0 + 1) :: pAsc (l.drop (i + 1)) := by
  have h2 := of_decide_eq_false hd
  rcases Nat.lt_or_ge (i + 1) l.length with h3 | h3
  · rw [drop_get l i h, drop_get l (i + 1) h3, pAsc, if_neg (fun h4 => h2 ⟨h3, h4⟩)]
  · rw [drop_get l i h, List.drop_eq_nil_of_le h3]; simp [pAsc]

theorem wij (i J : Nat) (h : i + 1 = J) (hi : i ≤ 200000) : IntKind.i64.wrap ((i : Int) + 1) = (J : Int) := by rw [IntKind.wrap_i64]; omega
theorem wdig (a b : Nat) (h : (48 ≤ a ∧ a ≤ 57) ∧ 48 ≤ b ∧ b ≤ 57) : ∃ A B M N T : Nat, 130 + (a - 48) * 10 + (b - 48) = T ∧ IntKind.u8.wrap ((a : Int) - 48) = (A : Int) ∧ IntKind.i64.wrap (A : Int) = (A : Int) ∧ IntKind.i64.wrap ((A : Int) * 10) = (M : Int) ∧
    IntKind.i64.wrap (130 + (M : Int)) = (N : Int) ∧ IntKind.u8.wrap ((b : Int) - 48) = (B : Int) ∧ IntKind.i64.wrap (B : Int) = (B : Int) ∧ IntKind.i64.wrap ((N : Int) + (B : Int)) = (T : Int) := by
  refine ⟨a - 48, b - 48, (a - 48) * 10, 130 + (a - 48) * 10, 130 + (a - 48) * 10 + (b - 48), rfl, ?_, ?_, ?_, ?_, ?_, ?_, ?_⟩
  · rw [wraps_u8 _ (by omega) (by omega)]; omega
  · rw [IntKind.wrap_i64]; omega
  · rw [IntKind.wrap_i64]; omega
  · rw [IntKind.wrap_i64]; omega
  · rw [wraps_u8 _ (by omega) (by omega)]; omega
  · rw [IntKind.wrap_i64]; omega
  · rw [IntKind.wrap_i64]; omega
theorem one_i64 (x : Int) : ∀ u ∈ [Value.int .i64 x], u.oneCell' = true := by intro u hu; simp at hu; subst hu; rfl

/-- a slice of the call's own under way -/
structure Ig (w wr : World) (x : Value) (l : List Nat) : Prop where
  own : OwnI wr w.heap.size x l
  bel : Below w.heap.size w wr
theorem Ig.new {w wr : World} {x : Value} {l : List Nat} (h : Ig w wr x l) (ob : Obj) : OwnI (wr.alloc ob) w.heap.size x l := h.own.below ((Below.refl _ _).alloc (Nat.le_refl _) ob)
theorem Ig.newN {w wr : World} {x : Value} {l : List Nat} (h : Ig w wr x l) (m : Nat) (ob : Obj) : OwnI ((wr.drewN m).alloc ob) w.heap.size x l := h.new ob
theorem Ig.bs {w wr : World} {x : Value} {l : List Nat} (h : Ig w wr x l) (ob : Obj) : w.heap.size ≤ (wr.alloc ob).heap.size := by rw [World.size_alloc]; have := h.bel.size; omega
theorem Ig.app {w wr w' : World} {x x' : Value} {l : List Nat} {ob : Obj} {X : Value} {c : Nat} (h : Ig w wr x l) (ha : AppTo (wr.alloc ob) w' 3 w.heap.size x x' (l.map num ++ [X])) (hX : X = num c) : Ig w w' x' (l ++ [c]) := by
  have t := ha.toA
  refine ⟨by have := ha.own; rw [hX] at this; rw [show OwnI w' w.heap.size x' (l ++ [c]) = OwnV w' 3 w.heap.size x' ((l ++ [c]).map num) from rfl, List.map_append]; exact this, h.bel.trans (t.below h.own h.bel.size)⟩
theorem Ig.dn {w wr : World} {x : Value} {l : List Nat} (h : Ig w wr x l) (m : Nat) : Ig w (wr.drewN m) x l := ⟨h.own, h.bel.trans (below_dn _ _ _)⟩
theorem Ig.newDN {w wr : World} {x : Value} {l : List Nat} (h : Ig w wr x l) (m : Nat) (ob : Obj) : OwnI ((wr.alloc ob).drewN m) w.heap.size x l := h.new ob
theorem Ig.bsDN {w wr : World} {x : Value} {l : List Nat} (h : Ig w wr x l) (m : Nat) (ob : Obj) : w.heap.size ≤ ((wr.alloc ob).drewN m).heap.size := h.bs ob
theorem Ig.appDN {w wr w' : World} {x x' : Value} {l : List Nat} {ob : Obj} {X : Value} {c m : Nat} (h : Ig w wr x l) (ha : AppTo ((wr.alloc ob).drewN m) w' 3 w.heap.size x x' (l.map num ++ [X])) (hX : X = num c) : Ig w w' x' (l ++ [c]) :=
  h.app (ob := ob) ⟨ha.own, ⟨ha.but.os, ha.but.tape, ha.but.output, ha.but.size, ha.but.block⟩, ha.at_⟩ hX
theorem Ig.nil (w : World) : Ig w w (.slice none 0 0) [] := ⟨OwnV.nil _ _ _, Below.refl _ _⟩
theorem Ig.room {w wr : World} {x : Value} {l : List Nat} (_ : Ig w wr x l) (h : l.length ≤ 500000) : (l.map num).length + 1 ≤ 1000000 := by rw [List.length_map]; omega

def PieceTo (w : World) (l : List Nat) (n : Nat) (e : Ending) (w' : World) : Prop := ∃ v, e = .returned (.tuple #[v, .int .i64 n]) ∧ Ig w w' v l

set_option maxRecDepth 100000 in
set_option maxHeartbeats 2000000 in
theorem asciiC (w : World) (s : ByteArray) (hs : s.size ≤ 100000) (h128 : ∀ c ∈ chs s, c < 128) : Calls Tryz.prog 20 #[.string s] w (PieceTo w (pAsc (chs s)) s.size) := by
  have H128 := Lib.hid h128; clear h128
  go_enter Tryz.func20, Tryz.ntmps20
  go_wp2_with fail
  go_loopw [4, 5] (fun s4 s5 wr => ∃ (x : Value) (i : Nat) (acc : List Nat), x = s4 ∧ i ≤ s.size ∧ s5 = .int .i64 i ∧ acc ++ pAsc ((chs s).drop i) = pAsc (chs s) ∧ acc.length ≤ i ∧ Ig w wr x acc) (fun _ s5 _ => s.size - (intOf s5).toNat)
  case atStart => exact ⟨_, 0, [], rfl, Nat.zero_le _, rfl, rfl, Nat.le_refl _, Ig.nil w⟩
  case round =>
    obtain ⟨x, i, acc, rfl, hi, rfl, hacc, hal, hig⟩ := hrel
    obtain ⟨w1, rfl⟩ : ∃ w1 : World, w1 = wr := ⟨_, rfl⟩
    have HA := Lib.hid hacc; clear hacc
    have IG := Lib.hid hig; clear hig
    by_cases his : i < s.size
    · have hil : i < (chs s).length := by rw [chs_len]; exact his
      have e0 := chs_get s i his
      obtain ⟨a, ha⟩ : ∃ a, (s[i]).toNat = a := ⟨_, rfl⟩
      rw [ha] at e0
      have ha128 : a < 128 := H128.out a (List.mem_of_getElem? (by rw [chs_at s i his, ha]))
      go_wp2_with fail
      refine (digC w1 s i hs his).mono ?_
      rintro e w' ⟨rfl, hw⟩
      obtain rfl := hw
      obtain ⟨b, hb⟩ : ∃ b, digB (chs s) i = b := ⟨_, rfl⟩
      rw [hb]
      cases b
      · have hp := pAsc_one (chs s) i hil hb
        rw [e0] at hp
        have HP := Lib.hid hp; clear hp e0 hb
        go_wp2_with (at_builtin; refine wpList_appV rfl (.tmp 34) (.tmp 40) 22 3 rfl Tryz.underlying22 (.int .i64 0) 8 infoI rfl (by decide) w.heap.size x (acc.map num) rfl (IG.out.new _) ⟨w1.heap.size, 0, none⟩ 1 1 [_] rfl rfl (cell_one_new _ _ _) (one_i64 _) (IG.out.room (by omega)) (IG.out.bs _) ?_)
        intro x' w2 H
        have IG2 := Lib.hid (IG.out.app (c := a + 1) H.out (by exact val_int (by omega)))
        clear H IG
        go_wp2
        go_roundw
        case rel => exact ⟨x', i + 1, _, rfl, his, by go_num, by rw [← HA.out, HP.out, List.append_assoc]; rfl, by rw [List.length_append, List.length_singleton]; omega, IG2.out⟩
        case measure => simp [intOf]; omega
      · have hp := pAsc_two (chs s) i hil hb
        have hb2 := of_decide_eq_true hb
        have his2 : i + 1 < s.size := by have := hb2.1; rw [chs_len] at this; exact this
        have hbd := hb2.2
        unfold isDig at hbd
        obtain ⟨J, hJ⟩ : ∃ J, i + 1 = J := ⟨_, rfl⟩
        rw [hJ] at his2 hp hbd
        have e1 := chs_get s J his2
        obtain ⟨b, hbb⟩ : ∃ b, (s[J]).toNat = b := ⟨_, rfl⟩
        rw [hbb] at e1
        rw [e0, e1] at hp hbd
        have x1 := wij i J hJ (by omega)
        obtain ⟨A, B, M, N, T, hT, f1, f2, f3, f4, g1, g2, f5⟩ := wdig a b hbd
        rw [hT] at hp
        have HP := Lib.hid hp; clear hp e0 e1 hb hb2 hT
        have HJ := Lib.hid hJ; clear hJ
        go_upto_region 6 with fail
        go_cut [4, 5] from 4 to 31 (fun s4 s5 wx => ∃ x' : Value, x' = s4 ∧ s5 = .int .i64 i ∧ Ig w wx x' (acc ++ [T]))
        case first =>
          go_region_law (go_loud (refine step_appV rfl (.tmp 15) (.tmp 30) 22 3 rfl Tryz.underlying22 (.int .i64 0) 8 infoI rfl (by decide) w.heap.size x (acc.map num) rfl (IG.out.newDN _ _) ⟨w1.heap.size, 0, none⟩ 1 1 [_] rfl rfl (cell_one_newD w1 _ _ _) (one_i64 _) (IG.out.room (by omega)) (IG.out.bsDN _ _) ?_; intro x' w2 H))
          all_goals
            have IG2 := Lib.hid (IG.out.appDN (c := T) H.out rfl)
            go_wp2
            go_meet
            exact ⟨x', rfl, rfl, IG2.out⟩
        clear f1 f2 f3 f4 g1 g2 f5 x1
        obtain ⟨x', rfl, rfl, hig2⟩ := hcut
        obtain ⟨w2, rfl⟩ : ∃ w2 : World, w2 = wc := ⟨_, rfl⟩
        have IG2 := Lib.hid hig2; clear hig2
        have hJ2 := HJ.out
        go_wp2
        go_roundw
        case rel => exact ⟨x', i + 2, _, rfl, by omega, by go_num, by rw [← HA.out, HP.out, List.append_assoc]; rfl, by rw [List.length_append, List.length_singleton]; omega, IG2.out⟩
        case measure => simp [intOf]; omega
    · obtain rfl : i = s.size := by omega
      have hd : acc = pAsc (chs s) := by
        have := HA.out
        rw [List.drop_eq_nil_of_le (by rw [chs_len]; exact Nat.le_refl _)] at this
        simpa [pAsc] using this
      go_wp2
      go_ret2
      exact ⟨x, rfl, by rw [← hd]; exact IG.out⟩
end Go.Proofs.YtcnallabiffemaaGreatDoor
namespace Go.Proofs.YtcnallabiffemaaGreatDoor
open Go.RowKit (wrap32 wrap64 intOf Hid Below)
open Zx

theorem Ig.lit {w wr : World} (hb : Below w.heap.size w wr) (c : Nat) : Ig w (wr.alloc (.cells #[num c] 3)) (.slice (some ⟨wr.heap.size, 0, none⟩) 1 1) [c] := by
  refine ⟨?_, hb.alloc hb.size _⟩
  exact ⟨rfl, .inr ⟨wr.heap.size, 1, _, rfl, hb.size, heap_alloc_new wr _, Nat.le_refl _, by unfold maxLen; omega, rfl, rfl⟩⟩

theorem rnds_take (p : Nat) (l : List Nat) (k : Nat) (h : k < l.length) : rnds p (l.take (k + 1)) = rnds p (l.take k) ++ [rnd (l.getD k 0) (p + k + 1)] := by
  induction k generalizing p l with
  | zero =>
    cases l with
    | nil => simp at h
    | cons a r => simp [rnds]
  | succ k ih =>
    cases l with
    | nil => simp at h
    | cons a r =>
      rw [List.take_succ_cons, rnds, ih (p + 1) r (by simpa using h), List.take_succ_cons, rnds, List.cons_append]
      congr 3
      rw [show p + 1 + k + 1 = p + (k + 1) + 1 by omega]
      rfl

set_option maxRecDepth 100000 in
set_option maxHeartbeats 2000000 in
theorem randomizedC (w : World) (s : ByteArray) (behind : Nat) (hs : s.size < 250) (hbh : behind ≤ 100000) : Calls Tryz.prog 45 #[.string s, .int .i64 behind] w (PieceTo w (231 :: rnds (behind + 1) (s.size :: chs s)) s.size) := by
  go_enter Tryz.func45, Tryz.ntmps45
  have hl0 := Lib.hid (Ig.lit (Below.refl w.heap.size w) s.size)
  go_wp2_with fail
  go_loopw [6, 27] (fun s6 s27 wr => ∃ (x : Value) (k : Nat), x = s6 ∧ k ≤ s.size ∧ s27 = .int .i64 k ∧ Ig w wr x (s.size :: (chs s).take k)) (fun _ s27 _ => s.size - (intOf s27).toNat)
  case atStart => exact ⟨_, 0, rfl, Nat.zero_le _, rfl, hl0.out⟩
  case round =>
    clear hl0
    obtain ⟨x, k, rfl, hk, rfl, hig⟩ := hrel
    obtain ⟨w1, rfl⟩ : ∃ w1 : World, w1 = wr := ⟨_, rfl⟩
    obtain ⟨L, hL⟩ : ∃ L, s.size :: (chs s).take k = L := ⟨_, rfl⟩
    rw [hL] at hig
    have hll : L.length = k + 1 := by rw [← hL, List.length_cons, List.length_take, chs_len]; omega
    have HL := Lib.hid hL; clear hL
    have IG := Lib.hid hig; clear hig
    have HLL := Lib.hid hll; clear hll
    by_cases hks : k < s.size
    · have e0 := chs_at s k hks
      obtain ⟨a, ha⟩ : ∃ a, (s[k]).toNat = a := ⟨_, rfl⟩
      rw [ha] at e0
      have hal : a < 256 := by rw [← ha]; exact UInt8.toNat_lt _
      have ht : s.size :: (chs s).take (k + 1) = L ++ [a] := by rw [← HL.out, List.take_add_one, e0]; rfl
      have HT := Lib.hid ht; clear ht e0
      go_wp2_with (at_builtin; refine wpList_appV rfl (.tmp 30) (.tmp 35) 22 3 rfl Tryz.underlying22 (.int .i64 0) 8 infoI rfl (by decide) w.heap.size x (L.map num) rfl (IG.out.new _) ⟨w1.heap.size, 0, none⟩ 1 1 [_] rfl rfl (cell_one_new _ _ _) (one_i64 _) (IG.out.room (by rw [HLL.out]; omega)) (IG.out.bs _) ?_)
      intro x' w2 H
      have IG2 := Lib.hid (IG.out.app (c := a) H.out (by first | rfl | exact val_int (by omega)))
      clear H IG
      go_wp2
      go_roundw
      case rel => exact ⟨x', k + 1, rfl, hks, by go_num, by rw [HT.out]; exact IG2.out⟩
      case measure => simp [intOf]; omega
    · obtain rfl : k = s.size := by omega
      have hl2 : s.size :: chs s = L := by rw [← HL.out, List.take_of_length_le (by rw [chs_len]; exact Nat.le_refl _)]
      have HL2 := Lib.hid hl2; clear hl2
      rcases IG.out.own.shape with ⟨_, h0⟩ | ⟨g, cap, rfl, hg1, hg2, hg3, hg4, hg5⟩
      · exact absurd (congrArg List.length h0) (by rw [List.length_map, HLL.out]; simp)
      · rw [List.length_map, HLL.out] at hg3 ⊢
        have HG4 := Lib.hid hg4; clear hg4 hg5
        have ll0 := Lib.hid (Ig.lit (Below.refl w1.heap.size w1) 231)
        have bw := IG.out.bel
        have BW := Lib.hid bw; clear bw
        go_wp2_with fail
        go_loopw [8, 41] (fun s8 s41 wr => ∃ (y : Value) (t : Nat), y = s8 ∧ t ≤ s.size + 1 ∧ s41 = .int .i64 t ∧ Ig w1 wr y (231 :: rnds (behind + 1) (L.take t))) (fun _ s41 _ => s.size + 1 - (intOf s41).toNat)
        case atStart => exact ⟨_, 0, rfl, Nat.zero_le _, rfl, ll0.out⟩
        case round =>
          clear ll0
          obtain ⟨y, t, rfl, ht, rfl, hig⟩ := hrel
          obtain ⟨w2, rfl⟩ : ∃ w2 : World, w2 = wr := ⟨_, rfl⟩
          obtain ⟨O, hO⟩ : ∃ O, 231 :: rnds (behind + 1) (L.take t) = O := ⟨_, rfl⟩
          rw [hO] at hig
          have hol : O.length = t + 1 := by rw [← hO, List.length_cons, rnds_len, List.length_take, HLL.out]; omega
          have HO := Lib.hid hO; clear hO
          have HOL := Lib.hid hol; clear hol
          have IY := Lib.hid hig; clear hig
          by_cases htl : t < s.size + 1
          · have hget : L[t]? = some (L.getD t 0) := by rw [List.getD_eq_getElem?_getD, List.getElem?_eq_getElem (by rw [HLL.out]; omega)]; rfl
            have hcl : L.getD t 0 < 256 := by
              have hm := List.mem_of_getElem? hget
              rw [← HL2.out] at hm ⊢
              rcases List.mem_cons.1 hm with h | h
              · omega
              · obtain ⟨q, _, hq⟩ := List.mem_map.1 (show (s.size :: chs s).getD t 0 ∈ s.data.toList.map UInt8.toNat from h)
                rw [← hq]; exact UInt8.toNat_lt _
            have hcell := (IY.out.bel.cell (p := ⟨g, t, none⟩) hg2).trans (HG4.out t (num (L.getD t 0)) (by rw [List.getElem?_map, hget]; rfl))
            obtain ⟨c, hc⟩ : ∃ c, L.getD t 0 = c := ⟨_, rfl⟩
            rw [hc] at hcell hcl
            have hrt : 231 :: rnds (behind + 1) (L.take (t + 1)) = O ++ [rnd c (behind + 1 + t + 1)] := by rw [rnds_take _ _ _ (by rw [HLL.out]; omega), hc, ← HO.out]; rfl
            have HRT := Lib.hid hrt; clear hrt hget hc
            have rc := randC w2 (behind + t + 2) 255 (by omega) (by omega)
            rw [show ((behind + t + 2 : Nat) : Int) = (behind : Int) + (t : Int) + 2 by omega, show ((255 : Nat) : Int) = 255 from rfl] at rc
            obtain ⟨r, hr⟩ : ∃ r, 149 * (behind + t + 2) % 255 + 1 = r := ⟨_, rfl⟩
            rw [hr] at rc
            have hr1 : r ≤ 255 := by omega
            have hrd : rnd c (behind + 1 + t + 1) = (c + r) % 256 := by unfold rnd; rw [show behind + 1 + t + 1 = behind + t + 2 by omega, hr]
            have HRD := Lib.hid hrd; clear hrd hr
            go_wp2_with fail
            refine rc.mono ?_
            rintro e w' ⟨rfl, hw⟩
            obtain rfl := hw
            clear rc
            go_wp2_with (at_builtin; refine wpList_appV rfl (.tmp 46) (.tmp 55) 22 3 rfl Tryz.underlying22 (.int .i64 0) 8 infoI rfl (by decide) w1.heap.size y (O.map num) rfl (IY.out.new _) ⟨w2.heap.size, 0, none⟩ 1 1 [_] rfl rfl (cell_one_new _ _ _) (one_i64 _) (IY.out.room (by rw [HOL.out]; omega)) (IY.out.bs _) ?_)
            intro y' w3 H
            have IY2 := Lib.hid (IY.out.app (c := (c + r) % 256) H.out (by first | rfl | exact val_int (by omega)))
            clear H IY hcell
            go_wp2
            go_roundw
            case rel => exact ⟨y', t + 1, rfl, htl, by go_num, by rw [HRT.out, HRD.out]; exact IY2.out⟩
            case measure => simp [intOf]; omega
          · obtain rfl : t = s.size + 1 := by omega
            have hfin : O = 231 :: rnds (behind + 1) (s.size :: chs s) := by rw [← HO.out, List.take_of_length_le (by rw [HLL.out]; exact Nat.le_refl _), HL2.out]
            go_wp2
            go_ret2
            refine ⟨y, rfl, ?_⟩
            rw [← hfin]
            exact ⟨IY.out.own.base BW.out.size, BW.out.trans (IY.out.bel.mono BW.out.size)⟩
end Go.Proofs.YtcnallabiffemaaGreatDoor
namespace Zx

/-! the placement: rows R, columns C -/
abbrev Pl := Int × Int
abbrev Shp := List Pl

/-- a place, brought in at the edges -/
def adj (R C : Int) (p : Pl) : Pl :=
  let p1 : Pl := if p.1 < 0 then (p.1 + R, p.2 + (4 - (R + 4) % 8)) else p
  if p1.2 < 0 then (p1.1 + (4 - (C + 4) % 8), p1.2 + C) else p1

def utahS (R C row col : Int) : Shp :=
  [adj R C (row - 2, col - 2), adj R C (row - 2, col - 1), adj R C (row - 1, col - 2), adj R C (row - 1, col - 1), adj R C (row - 1, col), adj R C (row, col - 2), adj R C (row, col - 1), adj R C (row, col)]
def corn1 (R C : Int) : Shp := [(R - 1, 0), (R - 1, 1), (R - 1, 2), (0, C - 2), (0, C - 1), (1, C - 1), (2, C - 1), (3, C - 1)]
def corn2 (R C : Int) : Shp := [(R - 3, 0), (R - 2, 0), (R - 1, 0), (0, C - 4), (0, C - 3), (0, C - 2), (0, C - 1), (1, C - 1)]
def corn3 (R C : Int) : Shp := [(R - 1, 0), (R - 1, C - 1), (0, C - 3), (0, C - 2), (0, C - 1), (1, C - 3), (1, C - 2), (1, C - 1)]
def corn4 (R C : Int) : Shp := [(R - 3, 0), (R - 2, 0), (R - 1, 0), (0, C - 2), (0, C - 1), (1, C - 1), (2, C - 1), (3, C - 1)]

def corner (R C row col : Int) : Option Shp :=
  if row = R ∧ col = 0 then some (corn1 R C)
  else if row = R - 2 ∧ col = 0 ∧ C % 8 = 4 then some (corn4 R C)
  else if row = R - 2 ∧ col = 0 ∧ C % 4 ≠ 0 then some (corn2 R C)
  else if row = R + 4 ∧ col = 2 ∧ C % 8 = 0 then some (corn3 R C)
  else none

def ix (C : Int) (p : Pl) : Nat := (p.1 * C + p.2).toNat
def inR (R C : Int) (p : Pl) : Bool := decide (0 ≤ p.1 ∧ p.1 < R ∧ 0 ≤ p.2 ∧ p.2 < C)

/-- the modules of a shape are free, and different: what is taken behind it; none: they are not -/
def take8 (R C : Int) : Shp → Nat → Option Nat
  | [], V => some V
  | p :: s, V => if inR R C p && !V.testBit (ix C p) then take8 R C s (V ||| 2 ^ ix C p) else none

structure MS where
  ph : Nat
  row : Int
  col : Int
  V : Nat

/-- the shapes that the walk lays, by the walk -/
def layG (R C : Int) : Nat → MS → List Shp
  | 0, _ => []
  | n + 1, s =>
    match s.ph with
    | 0 => if s.row < R ∨ s.col < C then
        (match corner R C s.row s.col with
        | none => layG R C n { s with ph := 1 }
        | some sh => match take8 R C sh s.V with
          | none => []
          | some V => sh :: layG R C n { s with ph := 1, V := V })
      else []
    | 1 => if s.row ≥ 0 ∧ s.col < C then
        (if s.row < R ∧ s.col ≥ 0 ∧ s.V.testBit (ix C (s.row, s.col)) = false then
          match take8 R C (utahS R C s.row s.col) s.V with
          | none => []
          | some V => utahS R C s.row s.col :: layG R C n { s with row := s.row - 2, col := s.col + 2, V := V }
        else layG R C n { s with row := s.row - 2, col := s.col + 2 })
      else layG R C n { s with ph := 2, row := s.row + 1, col := s.col + 3 }
    | _ => if s.row < R ∧ s.col ≥ 0 then
        (if s.row ≥ 0 ∧ s.col < C ∧ s.V.testBit (ix C (s.row, s.col)) = false then
          match take8 R C (utahS R C s.row s.col) s.V with
          | none => []
          | some V => utahS R C s.row s.col :: layG R C n { s with row := s.row + 2, col := s.col - 2, V := V }
        else layG R C n { s with row := s.row + 2, col := s.col - 2 })
      else layG R C n { s with ph := 0, row := s.row + 3, col := s.col + 1 }

def layN (R C : Int) : List Shp := layG R C (3 * (R * C).toNat) ⟨0, 4, 0, 0⟩

/-- what the walk of the reference does, over the shapes that it is to lay; behind it all is taken but the corner -/
def runS (R C : Int) : Nat → MS → List Shp → Bool
  | 0, _, _ => false
  | n + 1, s, L =>
    match s.ph with
    | 0 => if s.row < R ∨ s.col < C then
        (match corner R C s.row s.col with
        | none => runS R C n { s with ph := 1 } L
        | some sh => match take8 R C sh s.V, L with
          | some V, sh' :: L' => sh == sh' && runS R C n { s with ph := 1, V := V } L'
          | _, _ => false)
      else L.isEmpty && (if s.V.testBit (ix C (R - 1, C - 1)) then s.V == 2 ^ (R * C).toNat - 1 else s.V ||| 2 ^ ix C (R - 1, C - 1) ||| 2 ^ ix C (R - 2, C - 2) ||| 2 ^ ix C (R - 1, C - 2) ||| 2 ^ ix C (R - 2, C - 1) == 2 ^ (R * C).toNat - 1)
    | 1 => if s.row ≥ 0 ∧ s.col < C then
        (if s.row < R ∧ s.col ≥ 0 ∧ s.V.testBit (ix C (s.row, s.col)) = false then
          match take8 R C (utahS R C s.row s.col) s.V, L with
          | some V, sh' :: L' => utahS R C s.row s.col == sh' && runS R C n { s with row := s.row - 2, col := s.col + 2, V := V } L'
          | _, _ => false
        else runS R C n { s with row := s.row - 2, col := s.col + 2 } L)
      else runS R C n { s with ph := 2, row := s.row + 1, col := s.col + 3 } L
    | _ => if s.row < R ∧ s.col ≥ 0 then
        (if s.row ≥ 0 ∧ s.col < C ∧ s.V.testBit (ix C (s.row, s.col)) = false then
          match take8 R C (utahS R C s.row s.col) s.V, L with
          | some V, sh' :: L' => utahS R C s.row s.col == sh' && runS R C n { s with row := s.row + 2, col := s.col - 2, V := V } L'
          | _, _ => false
        else runS R C n { s with row := s.row + 2, col := s.col - 2 } L)
      else runS R C n { s with ph := 0, row := s.row + 3, col := s.col + 1 } L

def sizes : List (Int × Int × Nat) := [(8, 8, 8), (10, 10, 12), (12, 12, 18), (14, 14, 24), (16, 16, 32), (18, 18, 40), (20, 20, 50), (22, 22, 60), (24, 24, 72),
  (28, 28, 98), (32, 32, 128), (36, 36, 162), (40, 40, 200), (44, 44, 242), (48, 48, 288), (56, 56, 392), (64, 64, 512), (72, 72, 648), (80, 80, 800), (88, 88, 968), (96, 96, 1152),
  (108, 108, 1458), (120, 120, 1800), (6, 16, 12), (6, 28, 21), (10, 24, 30), (10, 32, 40), (14, 32, 56), (14, 44, 77)]

end Zx
namespace Zx

/-- the decoder's walk -/
structure DS where
  row : Int
  col : Int
  V : Nat
  f1 : Bool
  f2 : Bool
  f3 : Bool
  f4 : Bool

def bndD (s : DS) : Bool := decide (-200 ≤ s.row ∧ s.row ≤ 200 ∧ -200 ≤ s.col ∧ s.col ≤ 200)

/-- what the decoder's walk takes is L: phases: 0 the head, 1 upwards, 2 downwards, 3 the end's test -/
def runD (R C : Int) : Nat → Nat → DS → List Shp → Bool
  | 0, _, _, _ => false
  | n + 1, ph, s, L => bndD s &&
    match ph with
    | 0 =>
      if s.row = R ∧ s.col = 0 ∧ s.f1 = false then
        match L with
        | sh :: L' => (corn1 R C == sh) && match take8 R C (corn1 R C) s.V with
          | some V => runD R C n 3 { s with row := s.row - 2, col := s.col + 2, V := V, f1 := true } L'
          | none => false
        | [] => false
      else if s.row = R - 2 ∧ s.col = 0 ∧ C % 4 ≠ 0 ∧ s.f2 = false then
        match L with
        | sh :: L' => (corn2 R C == sh) && match take8 R C (corn2 R C) s.V with
          | some V => runD R C n 3 { s with row := s.row - 2, col := s.col + 2, V := V, f2 := true } L'
          | none => false
        | [] => false
      else if s.row = R + 4 ∧ s.col = 2 ∧ C % 8 = 0 ∧ s.f3 = false then
        match L with
        | sh :: L' => (corn3 R C == sh) && match take8 R C (corn3 R C) s.V with
          | some V => runD R C n 3 { s with row := s.row - 2, col := s.col + 2, V := V, f3 := true } L'
          | none => false
        | [] => false
      else if s.row = R - 2 ∧ s.col = 0 ∧ C % 8 = 4 ∧ s.f4 = false then
        match L with
        | sh :: L' => (corn4 R C == sh) && match take8 R C (corn4 R C) s.V with
          | some V => runD R C n 3 { s with row := s.row - 2, col := s.col + 2, V := V, f4 := true } L'
          | none => false
        | [] => false
      else runD R C n 1 s L
    | 1 =>
      if s.row < R ∧ s.col ≥ 0 then inR R C (s.row, s.col) && (
        if s.V.testBit (ix C (s.row, s.col)) then runD R C n 4 s L
        else match L with
        | sh :: L' => (utahS R C s.row s.col == sh) && match take8 R C (utahS R C s.row s.col) s.V with
          | some V => runD R C n 4 { s with V := V } L'
          | none => false
        | [] => false)
      else runD R C n 4 s L
    | 4 => if s.row - 2 ≥ 0 ∧ s.col + 2 < C then runD R C n 1 { s with row := s.row - 2, col := s.col + 2 } L
      else runD R C n 2 { s with row := s.row - 1, col := s.col + 5 } L
    | 2 =>
      if s.row ≥ 0 ∧ s.col < C then inR R C (s.row, s.col) && (
        if s.V.testBit (ix C (s.row, s.col)) then runD R C n 5 s L
        else match L with
        | sh :: L' => (utahS R C s.row s.col == sh) && match take8 R C (utahS R C s.row s.col) s.V with
          | some V => runD R C n 5 { s with V := V } L'
          | none => false
        | [] => false)
      else runD R C n 5 s L
    | 5 => if s.row + 2 < R ∧ s.col - 2 ≥ 0 then runD R C n 2 { s with row := s.row + 2, col := s.col - 2 } L
      else runD R C n 3 { s with row := s.row + 5, col := s.col - 1 } L
    | _ => if s.row < R ∨ s.col < C then runD R C n 0 s L else L.isEmpty

def fuelD (R C : Int) : Nat := 4 * (R * C).toNat + 1000
def okD (R C : Int) : Bool := runD R C (fuelD R C) 0 ⟨4, 0, 0, false, false, false, false⟩ (layN R C)
def okS (R C : Int) : Bool := runS R C (3 * (R * C).toNat + 1000) ⟨0, 4, 0, 0⟩ (layN R C)
end Zx
