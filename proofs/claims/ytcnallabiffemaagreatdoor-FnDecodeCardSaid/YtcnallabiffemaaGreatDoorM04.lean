import Derived.Test.YtcnallabiffemaaGreatDoorM02
import Derived.Test.YtcnallabiffemaaGreatDoorM03
/- Part of the proof that a Data Matrix symbol of a text, damaged at most to half of its check codewords in each block, is decoded to the text (FnDecode): texts Pg Ph Pi Pj Pk. -/
set_option linter.unusedVariables false
set_option linter.unusedSimpArgs false
namespace Go.Proofs.YtcnallabiffemaaGreatDoor
open Go.RowKit (wrap32 wrap64 intOf Hid Below)
open Zx

/-- GetDegree, GetZero, GetOne -/
theorem degC (w : World) (fb p : Nat) (l : List F) (hl : Poly w fb p l) :
    Calls Tryz.prog 210 #[pt p] w fun e w' => e = .returned (.int .i64 ((l.length : Int) - 1)) ∧ w = w' := by
  obtain ⟨ab, ao, ac, pa0, pa1, pa2, pa3, pa4, pa5, pa6, pa7⟩ := hl
  clear pa7
  go_enter Tryz.func210, Tryz.ntmps210
  go_wp2
  go_ret
  exact ⟨rfl, rfl⟩
theorem zeroC (w : World) (fb : Nat) (h : Fld w fb) : Calls Tryz.prog 211 #[pt fb] w fun e w' => (∃ z, e = .returned (pt z) ∧ Poly w fb z [0]) ∧ w = w' := by
  obtain ⟨⟨eb, lb, zb, ob, h1, h2, h3, h4, h5, h6, h7⟩, h8⟩ := h
  have H4 := Lib.hid h4
  clear h1 h4 h5
  go_enter Tryz.func211, Tryz.ntmps211
  go_wp2
  go_ret
  exact ⟨⟨zb, rfl, H4.out⟩, rfl⟩
theorem oneC (w : World) (fb : Nat) (h : Fld w fb) : Calls Tryz.prog 212 #[pt fb] w fun e w' => (∃ z, e = .returned (pt z) ∧ Poly w fb z [1]) ∧ w = w' := by
  obtain ⟨⟨eb, lb, zb, ob, h1, h2, h3, h4, h5, h6, h7⟩, h8⟩ := h
  have H4 := Lib.hid h5
  clear h1 h4 h5
  go_enter Tryz.func212, Tryz.ntmps212
  go_wp2
  go_ret
  exact ⟨⟨ob, rfl, H4.out⟩, rfl⟩
/-- the leading coefficient -/
theorem leadC (w : World) (fb p : Nat) (l : List F) (hl : Poly w fb p l) :
    Calls Tryz.prog 208 #[pt p, .int .i64 ((l.length : Int) - 1)] w fun e w' => e = .returned (fv (hi l 0)) ∧ ∃ n, w' = w.drewN n := by
  have hp : 0 < l.length := by obtain ⟨_, _, _, _, _, _, h, _⟩ := hl; exact h
  have := getCo w fb p l (l.length - 1) hl (by omega)
  rw [show ((l.length - 1 : Nat) : Int) = (l.length : Int) - 1 by omega, co_get, if_pos (by omega), show l.length - 1 - (l.length - 1) = 0 by omega] at this
  exact this
theorem invC (a : F) (ha : a ≠ 0) (fb : Nat) (w : World) (h : Fld w fb) :
    Calls Tryz.prog 214 #[pt fb, fv a] w fun e w' => e = .returned (.tuple #[fv a.inv, .nilIface]) ∧ ∃ n, w' = w.drewN n := by
  obtain ⟨⟨eb, lb, _, _, h1, _⟩, _⟩ := h
  exact inv_any a ha fb eb lb w h1

/-- how long the polynomial behind a pointer is -/
def plen (w : World) (v : Value) : Nat := match v with
  | .pointer (some a) => match w.cell? ⟨a.block, 1, none⟩ with | some (.slice _ n _) => n | _ => 0
  | _ => 0
theorem plen_of {w : World} {fb p : Nat} {l : List F} (h : Poly w fb p l) : plen w (pt p) = l.length := by
  obtain ⟨ab, ao, ac, _, h1, _⟩ := h
  show (match w.cell? ⟨p, 1, none⟩ with | some (.slice _ n _) => n | _ => 0) = _
  rw [h1]

def Eu (w : World) (fb : Nat) (l : Er) (e : Ending) (w' : World) : Prop :=
  ∃ p q a b, e = .returned (.tuple #[pt p, pt q, .nilIface]) ∧ Poly w' fb p a ∧ Poly w' fb q b ∧ Wf a ∧ Wf b ∧ co a = Lam l ∧ co b = Om l ∧ Below w.heap.size w w'

theorem monoI (w : World) (fb d : Nat) (x : Int) (c : F) (hf : Fld w fb) (hd : d ≤ 1000) (hx : x = (d : Int)) : Calls Tryz.prog 167 #[pt fb, .int .i64 x, fv c] w (MkPoly w fb (monoP d c)) := by
  subst hx; exact mono_any w fb d c hf hd
theorem mulMonoI (w : World) (fb p : Nat) (l : List F) (d : Nat) (x : Int) (c : F) (hf : Fld w fb) (hl : Poly w fb p l) (hd : d ≤ 1000) (hll : l.length ≤ 1000) (hx : x = (d : Int)) :
    Calls Tryz.prog 216 #[pt p, .int .i64 x, fv c] w (MkPoly w fb (mulMono l d c)) := by
  subst hx; exact mulMono_any w fb p l d c hf hl hd hll

set_option maxRecDepth 100000 in
set_option maxHeartbeats 4000000 in
theorem euclidC (w : World) (fb d p q n : Nat) (s : List F) (l : Er) (hf : Fld w fb) (hd : w.cell? ⟨d, 0, none⟩ = some (pt fb)) (hds : d < w.heap.size)
    (hp : Poly w fb p (monoP n 1)) (hq : Poly w fb q s) (hws : Wf s) (hsl : s.length ≤ n) (hn0 : 0 < n) (hn : n ≤ 400)
    (hg : Zx.Good l) (hv : 2 * l.length ≤ n) (hS : Mo n (co s) (Sy l)) :
    Calls Tryz.prog 168 #[pt d, pt p, pt q, .int .i64 n] w (Eu w fb l) := by
  have HG := Lib.hid hg; clear hg
  have HS := Lib.hid hS; clear hS
  have HF := Lib.hid hf; clear hf
  have HP := Lib.hid hp; clear hp
  have HQ := Lib.hid hq; clear hq
  have E0 := Lib.hid (EInv.start hws hsl); clear hws
  have l1 : (monoP n 1).length = n + 1 := by
    have hm : monoP n 1 = 1 :: List.replicate n 0 := by
      unfold monoP nrm; rw [if_neg one_ne, List.dropWhile_cons_of_neg (by simpa using one_ne)]
    rw [hm]; simp
  go_enter Tryz.func168, Tryz.ntmps168
  go_wp2_with fail
  refine (degC w fb p _ HP.out).mono ?_
  rintro e w' ⟨rfl, rfl⟩
  go_wp2_with fail
  refine (degC w fb q _ HQ.out).mono ?_
  rintro e w' ⟨rfl, rfl⟩
  go_wp2_with fail
  refine (zeroC w fb HF.out).mono ?_
  rintro e w' ⟨⟨z, rfl, hz⟩, rfl⟩
  go_wp2_with fail
  refine (oneC w fb HF.out).mono ?_
  rintro e w' ⟨⟨o, rfl, ho⟩, rfl⟩
  have HZ := Lib.hid hz; clear hz
  have HO := Lib.hid ho; clear ho
  go_wp2_with fail
  go_loopw [11, 12, 13, 14] (fun p1 p2 p3 p4 wr => ∃ rL r tL t a1 a2 a3 a4, p1 = pt a1 ∧ p2 = pt a2 ∧ p3 = pt a3 ∧ p4 = pt a4 ∧ Poly wr fb a1 rL ∧ Poly wr fb a2 r ∧ Poly wr fb a3 tL ∧ Poly wr fb a4 t ∧
      EInv n (co s) rL r tL t ∧ n ≤ 2 * (rL.length - 1) ∧ Below w.heap.size w wr)
    (fun _ p2 _ _ wr => plen wr p2)
  case atStart => exact ⟨_, s, _, _, p, q, z, o, rfl, rfl, rfl, rfl, HP.out, HQ.out, HZ.out, HO.out, E0.out, by omega, Below.refl _ _⟩
  case round =>
    obtain ⟨rL, r, tL, t, a1, a2, a3, a4, rfl, rfl, rfl, rfl, q1, q2, q3, q4, inv, hn2, hb⟩ := hrel
    have k1 := inv.wr.pos
    have k2 := inv.hlt
    have k3 := inv.hn
    have k4 : t.length ≤ n + 1 := inv.wt.len_le (by omega) (inv.hbt.mono (by omega))
    have k5 : tL.length ≤ n + 1 := inv.wtL.len_le (by omega) (inv.hbtL.mono (by omega))
    have f0 : wr.cell? ⟨d, 0, none⟩ = some (pt fb) := (hb.cell (p := ⟨d, 0, none⟩) hds).trans hd
    have FW := Lib.hid (HF.out.below hb)
    have HB := Lib.hid hb; clear hb
    have INV := Lib.hid inv; clear inv
    have Q1 := Lib.hid q1; clear q1
    have Q2 := Lib.hid q2; clear q2
    have Q3 := Lib.hid q3; clear q3
    have Q4 := Lib.hid q4; clear q4
    have pl0 := plen_of Q2.out
    by_cases ht : n ≤ 2 * (r.length - 1)
    · have hr1 : 1 < r.length := by omega
      have hr0 : hi r 0 ≠ 0 := fun h => by have := INV.out.wr.zero h; rw [this] at hr1; simp at hr1
      have g1 : (n : Int) ≤ 2 * ((r.length : Int) - 1) := by omega
      have HR0 := Lib.hid hr0; clear hr0
      go_wp2_with fail
      refine (degC wr fb a2 _ Q2.out).mono ?_
      rintro e w' ⟨rfl, hw⟩
      obtain rfl := hw
      go_wp2_with fail
      refine (isZero_f wr fb a2 _ Q2.out HR0.out).mono ?_
      rintro e w' ⟨rfl, hw⟩
      obtain rfl := hw
      go_wp2_with fail
      refine (zeroC wr fb FW.out).mono ?_
      rintro e w' ⟨⟨z2, rfl, hz⟩, hw⟩
      obtain rfl := hw
      have Z2 := Lib.hid hz; clear hz
      go_wp2_with fail
      refine (degC wr fb a2 _ Q2.out).mono ?_
      rintro e w' ⟨rfl, hw⟩
      obtain rfl := hw
      go_wp2_with fail
      refine (leadC wr fb a2 _ Q2.out).mono ?_
      rintro e w' ⟨rfl, n1, rfl⟩
      go_wp2_with fail
      refine (invC _ HR0.out fb _ (FW.out.dn _)).mono ?_
      rintro e w' ⟨rfl, n2, rfl⟩
      obtain ⟨wo, rfl⟩ : ∃ wo : World, wo = wr := ⟨_, rfl⟩
      go_wp2_with fail
      go_loopw [12, 17] (fun p1 p2 wi => ∃ r' q' b1 b2, p1 = pt b1 ∧ p2 = pt b2 ∧ Poly wi fb b1 r' ∧ Poly wi fb b2 q' ∧ DInv rL r r' q' ∧ Below wo.heap.size wo wi)
        (fun p1 _ wi => plen wi p1)
      case atStart => exact ⟨rL, [0], a1, z2, rfl, rfl, Q1.out, Z2.out, DInv.start INV.out.wrL, below_dn _ _ _⟩
      case round =>
        obtain ⟨r', q', b1, b2, rfl, rfl, v1, v2, dinv, hbi⟩ := hrel
        have m1 := dinv.wr.pos
        have m2 := dinv.br
        have m3 : q'.length ≤ n + 1 := dinv.wq.len_le (by omega) (dinv.bq.mono (by omega))
        have d0 : wr.cell? ⟨d, 0, none⟩ = some (pt fb) := (((HB.out).trans (hbi.mono HB.out.size)).cell (p := ⟨d, 0, none⟩) hds).trans hd
        have FI := Lib.hid (FW.out.below hbi)
        have V1 := Lib.hid v1; clear v1
        have V2 := Lib.hid v2; clear v2
        have V3 := Lib.hid (Q2.out.below hbi)
        have V4 := Lib.hid (Q4.out.below hbi)
        have V5 := Lib.hid (Q3.out.below hbi)
        have HBI := Lib.hid hbi; clear hbi
        have DI := Lib.hid dinv; clear dinv
        have pl1 := plen_of V1.out
        by_cases hs : r.length ≤ r'.length
        · have hr0' : hi r' 0 ≠ 0 := fun h => by have := DI.out.wr.zero h; rw [this] at hs; simp at hs; omega
          have g2 : (r.length : Int) - 1 ≤ (r'.length : Int) - 1 := by omega
          have HR0' := Lib.hid hr0'; clear hr0'
          go_wp2_with fail
          refine (degC wr fb b1 _ V1.out).mono ?_
          rintro e w' ⟨rfl, hw⟩
          obtain rfl := hw
          go_wp2_with fail
          refine (degC wr fb a2 _ V3.out).mono ?_
          rintro e w' ⟨rfl, hw⟩
          obtain rfl := hw
          go_wp2_with fail
          refine (isZero_f wr fb b1 _ V1.out HR0'.out).mono ?_
          rintro e w' ⟨rfl, hw⟩
          obtain rfl := hw
          go_wp2_with fail
          refine (degC wr fb b1 _ V1.out).mono ?_
          rintro e w' ⟨rfl, hw⟩
          obtain rfl := hw
          go_wp2_with fail
          refine (degC wr fb a2 _ V3.out).mono ?_
          rintro e w' ⟨rfl, hw⟩
          obtain rfl := hw
          go_wp2_with fail
          go_quiet (first | ((go_at_call 210; exact Calls.quiet_of_same ((degC _ fb b1 _ (V1.out.drewN _)).mono fun _ _ h => ⟨h.1, h.2.symm⟩))) | ((go_at_call 208; exact Calls.quiet_of (leadC _ fb b1 _ (V1.out.drewN _)))) | ((go_at_call 209; exact Calls.quiet_of (mulF _ _ fb _ (FI.out.dn _)))))
          go_wp2_with fail
          obtain ⟨dd, hdd⟩ : ∃ dd, dd = r'.length - r.length := ⟨_, rfl⟩
          refine (monoI _ fb dd _ _ (FI.out.dn _) (by omega) (by omega)).mono ?_
          rintro e w3 ⟨t1, rfl, y1, x3⟩
          have X3 : Below wr.heap.size wr w3 := (below_dn _ _ _).trans x3
          have Y1 := Lib.hid y1; clear y1
          go_wp2_with fail
          refine (addP_any w3 fb b2 t1 _ _ (V2.out.below X3) Y1.out).mono ?_
          rintro e w4 ⟨t2, rfl, y2, x4⟩
          have X4 : Below wr.heap.size wr w4 := X3.trans (x4.mono X3.size)
          have Y2 := Lib.hid y2; clear y2
          go_wp2_with fail
          refine (mulMonoI w4 fb a2 _ dd _ _ (FI.out.below X4) (V3.out.below X4) (by omega) (by omega) (by omega)).mono ?_
          rintro e w5 ⟨t3, rfl, y3, x5⟩
          have X5 : Below wr.heap.size wr w5 := X4.trans (x5.mono X4.size)
          have Y3 := Lib.hid y3; clear y3
          go_wp2_with fail
          refine (addP_any w5 fb b1 t3 _ _ (V1.out.below X5) Y3.out).mono ?_
          rintro e w6 ⟨t4, rfl, y4, x6⟩
          have X6 : Below wr.heap.size wr w6 := X5.trans (x6.mono X5.size)
          have Y4 := Lib.hid y4; clear y4
          have Y2' : Poly w6 fb t2 _ := (Y2.out.below x5).below x6
          have st := DI.out.step INV.out.wr hr1 hs rfl
          rw [← hdd] at st
          have pl2 := plen_of Y4.out
          have Y2'' := Lib.hid Y2'; clear Y2'
          have ST := Lib.hid st.1
          have st2 := st.2
          clear st
          go_wp2
          go_roundw
          case rel => exact ⟨_, _, t4, t2, rfl, rfl, Y4.out, Y2''.out, ST.out, HBI.out.trans (X6.mono HBI.out.size)⟩
          case measure => rw [pl1, pl2]; exact st2
        · have g2 : ¬ (r.length : Int) - 1 ≤ (r'.length : Int) - 1 := by omega
          have hlt' : r'.length < r.length := by omega
          go_wp2_with fail
          refine (degC wr fb b1 _ V1.out).mono ?_
          rintro e w' ⟨rfl, hw⟩
          obtain rfl := hw
          go_wp2_with fail
          refine (degC wr fb a2 _ V3.out).mono ?_
          rintro e w' ⟨rfl, hw⟩
          obtain rfl := hw
          go_wp2_with fail
          refine (mulP_any wr fb b2 a4 _ _ FI.out V2.out V4.out (by omega) (by omega)).mono ?_
          rintro e w3 ⟨t1, rfl, y1, x3⟩
          have Y1 := Lib.hid y1; clear y1
          go_wp2_with fail
          refine (addP_any w3 fb t1 a3 _ _ Y1.out (V5.out.below x3)).mono ?_
          rintro e w4 ⟨t2, rfl, y2, x4⟩
          have X4 : Below wr.heap.size wr w4 := x3.trans (x4.mono x3.size)
          have Y2 := Lib.hid y2; clear y2
          have V1' := Lib.hid (V1.out.below X4)
          have V3' := Lib.hid (V3.out.below X4)
          have V4' := Lib.hid (V4.out.below X4)
          go_wp2_with fail
          refine (degC w4 fb b1 _ V1'.out).mono ?_
          rintro e w' ⟨rfl, hw⟩
          obtain rfl := hw
          go_wp2_with fail
          refine (degC w4 fb a2 _ V3'.out).mono ?_
          rintro e w' ⟨rfl, hw⟩
          obtain rfl := hw
          have st := INV.out.step hr1 DI.out hlt'
          have ST := Lib.hid st; clear st
          have pl2 := plen_of V1'.out
          go_wp2
          go_roundw
          case rel => exact ⟨_, _, _, _, a2, b1, a4, t2, rfl, rfl, rfl, rfl, V3'.out, V1'.out, V4'.out, Y2.out, ST.out, ht, HB.out.trans ((HBI.out.trans (X4.mono HBI.out.size)).mono HB.out.size)⟩
          case measure => rw [pl0, pl2]; exact hlt'
    · have g1 : ¬ (n : Int) ≤ 2 * ((r.length : Int) - 1) := by omega
      obtain ⟨c1, c2, c3⟩ := INV.out.norm HG.out hv HS.out hn2 (by omega)
      have W1 : Wf (mulS t (co t 0).inv) := Wf_mulS INV.out.wt _
      have W2 : Wf (mulS r (co t 0).inv) := Wf_mulS INV.out.wr _
      have zc := beq_f0 _ c1
      have C1 := Lib.hid c1; clear c1
      have C2 := Lib.hid c2; clear c2
      have C3 := Lib.hid c3; clear c3
      have k6 := INV.out.wt.pos
      go_wp2_with fail
      refine (degC wr fb a2 _ Q2.out).mono ?_
      rintro e w' ⟨rfl, hw⟩
      obtain rfl := hw
      go_wp2_with fail
      refine (getCo wr fb a4 _ 0 Q4.out k6).mono ?_
      rintro e w' ⟨rfl, n1, rfl⟩
      go_wp2_with fail
      refine (invC _ C1.out fb _ (FW.out.dn _)).mono ?_
      rintro e w' ⟨rfl, n2, rfl⟩
      go_wp2_with fail
      refine (mulS_any _ fb a4 _ _ (FW.out.dn _) (Q4.out.drewN _) (by omega)).mono ?_
      rintro e w3 ⟨t1, rfl, y1, x3⟩
      have X3 : Below wr.heap.size wr w3 := (below_dn _ _ _).trans x3
      have Y1 := Lib.hid y1; clear y1
      go_wp2_with fail
      refine (mulS_any w3 fb a2 _ _ (FW.out.below X3) (Q2.out.below X3) (by omega)).mono ?_
      rintro e w4 ⟨t2, rfl, y2, x4⟩
      have X4 : Below wr.heap.size wr w4 := X3.trans (x4.mono X3.size)
      have Y2 := Lib.hid y2; clear y2
      have Y1' := Lib.hid (Y1.out.below x4)
      go_wp2
      go_ret3
      exact ⟨t1, t2, _, _, rfl, Y1'.out, Y2.out, W1, W2, C2.out, C3.out, HB.out.trans (X4.mono HB.out.size)⟩
end Go.Proofs.YtcnallabiffemaaGreatDoor
namespace Go.Proofs.YtcnallabiffemaaGreatDoor
open Go.RowKit (wrap32 wrap64 intOf Hid Below)
open Zx

theorem fv_fi (k : Nat) (h : k < 256) : fv (fi k) = .int .i64 k := by unfold fv; rw [fi_v k h]
theorem fi_ne (k : Nat) (h : k < 256) (h1 : 1 ≤ k) : fi k ≠ 0 := fun h0 => by have := congrArg F.v h0; rw [fi_v k h] at this; change k = 0 at this; omega
theorem evalK (w : World) (fb p : Nat) (l : List F) (k : Nat) (hf : Fld w fb) (hl : Poly w fb p l) (hk : k < 256) :
    Calls Tryz.prog 164 #[pt p, .int .i64 k] w fun e w' => e = .returned (fv (hrn (fi k) l)) ∧ ∃ n, w' = w.drewN n := by
  rw [← fv_fi k hk]; exact evalF w fb p l (fi k) hf hl
theorem invK (k : Nat) (hk : k < 256) (h1 : 1 ≤ k) (fb : Nat) (w : World) (h : Fld w fb) :
    Calls Tryz.prog 214 #[pt fb, .int .i64 k] w fun e w' => e = .returned (.tuple #[fv (fi k).inv, .nilIface]) ∧ ∃ n, w' = w.drewN n := by
  rw [← fv_fi k hk]; exact invC (fi k) (fi_ne k hk h1) fb w h
theorem sizeC (w : World) (fb : Nat) (h : Fld w fb) : Calls Tryz.prog 219 #[pt fb] w fun e w' => e = .returned (.int .i64 256) ∧ w = w' := by
  obtain ⟨⟨eb, lb, _, _, h1, _⟩, _⟩ := h
  have h4 := h1.c4
  clear h1
  go_enter Tryz.func219, Tryz.ntmps219
  go_wp2
  go_ret
  exact ⟨rfl, rfl⟩

/-- a list of numbers handed back as a slice, with no error -/
def MkSl (w : World) (L : List F) (e : Ending) (w' : World) : Prop :=
  ∃ b c, e = .returned (.tuple #[.slice (some ⟨b, 0, none⟩) L.length c, .nilIface]) ∧ L.length ≤ c ∧ w.heap.size ≤ b ∧ b < w'.heap.size ∧ Cs w' b 0 L ∧ Below w.heap.size w w'

theorem locs_one (w : World) (fb d p : Nat) (sg : List F) (hl : Poly w fb p sg) (h2 : sg.length = 2) :
    Calls Tryz.prog 169 #[pt d, pt p] w (MkSl w [hi sg 0]) := by
  have HL := Lib.hid hl; clear hl
  have hb : ((sg.length : Int) - 1 == 1) = true := by rw [h2]; rfl
  have e0 : co sg 1 = hi sg 0 := by rw [co_get, if_pos (by omega), h2]
  have E0 := Lib.hid e0; clear e0
  go_enter Tryz.func169, Tryz.ntmps169
  go_wp2_with fail
  refine (degC w fb p _ HL.out).mono ?_
  rintro e w' ⟨rfl, rfl⟩
  go_wp2_with fail
  refine (getCo w fb p _ 1 HL.out (by omega)).mono ?_
  rintro e w' ⟨rfl, n, rfl⟩
  go_wp2
  go_ret2
  refine ⟨w.heap.size, 1, rfl, Nat.le_refl _, Nat.le_refl _, by simp, ?_, (below_dn _ _ _).alloc (Nat.le_refl _) _⟩
  intro i hi'
  obtain rfl : i = 0 := by simpa using hi'
  rw [E0.out]
  exact World.cell?_alloc_new (w.drewN n) #[fv (hi sg 0)] 3 0

set_option maxRecDepth 100000 in
theorem locs_any (w : World) (fb d p : Nat) (sg : List F) (l : Er) (hf : Fld w fb) (hd : w.cell? ⟨d, 0, none⟩ = some (pt fb)) (hds : d < w.heap.size)
    (hl : Poly w fb p sg) (h2 : sg.length ≠ 2) (hn : sg.length ≤ 400) (hg : Zx.Good l) (hw : Wf sg) (hco : co sg = Lam l) :
    Calls Tryz.prog 169 #[pt d, pt p] w (MkSl w (rts sg 256)) := by
  have ll := locs_len hg hw hco
  have l2 : (rts sg 256).length = sg.length - 1 := by unfold locs at ll; rwa [if_neg h2] at ll
  clear ll hg hw hco
  have hp : 0 < sg.length := by obtain ⟨_, _, _, _, _, _, h, _⟩ := hl; exact h
  have HL := Lib.hid hl; clear hl
  have HF := Lib.hid hf; clear hf
  have hb : ((sg.length : Int) - 1 == 1) = false := int_bf (by omega)
  have hmk := run_make_row' (P := Tryz.prog) 22 3 (.int .i64 0) 8 Tryz.underlying22 info3 rfl .i64 .i64 (sg.length - 1) (by omega) (by omega)
  have ec : ((sg.length - 1 : Nat) : Int) = (sg.length : Int) - 1 := by omega
  rw [ec] at hmk
  go_enter Tryz.func169, Tryz.ntmps169
  go_wp2_with fail
  refine (degC w fb p _ HL.out).mono ?_
  rintro e w' ⟨rfl, rfl⟩
  go_wp2_with fail
  go_loopw [8, 9] (fun e i wr => ∃ k : Nat, 1 ≤ k ∧ k ≤ 256 ∧ i = .int .i64 k ∧ e = .int .i64 (rts sg k).length ∧
      wr.rowIs w.heap.size 3 (sg.length - 1) (fun j => if j < (rts sg k).length then fv (hi (rts sg k) j) else .int .i64 0) ∧ Below w.heap.size w wr)
    (fun _ i _ => 256 - (intOf i).toNat)
  case atStart =>
    refine ⟨1, Nat.le_refl _, by omega, rfl, rfl, (World.rowIs_made _ _ _ _).congr fun i _ => ?_, (Below.refl _ _).alloc (Nat.le_refl _) _⟩
    rw [if_neg (by rw [rts_one]; exact Nat.not_lt_zero i)]
  case round =>
    obtain ⟨k, hk1, hk2, rfl, rfl, hr, hb2⟩ := hrel
    have lm : (rts sg k).length ≤ (rts sg 256).length := by
      have := rts_len_mono sg k (256 - k) hk1
      rwa [show k + (256 - k) = 256 by omega] at this
    have f0 : wr.cell? ⟨d, 0, none⟩ = some (pt fb) := (hb2.cell (p := ⟨d, 0, none⟩) hds).trans hd
    have FW := Lib.hid (HF.out.below hb2)
    have HW := Lib.hid (HL.out.below hb2)
    have HR := Lib.hid hr; clear hr
    have HB := Lib.hid hb2; clear hb2
    by_cases hgo : k < 256 ∧ (rts sg k).length < sg.length - 1
    · obtain ⟨hk3, hlt⟩ := hgo
      have g1 : (k : Int) < 256 := by omega
      have g2 : ((rts sg k).length : Int) < (sg.length : Int) - 1 := by omega
      by_cases hz : hrn (fi k) sg = 0
      · have zc := beq_f1 _ hz
        have rs := rts_succ sg k hk1
        rw [if_pos hz] at rs
        have RS := Lib.hid rs; clear rs hz
        have gc := HR.out.cell hlt
        have gf := HR.out.frozen (rts sg k).length
        go_wp2_with fail
        refine (sizeC wr fb FW.out).mono ?_
        rintro e w' ⟨rfl, hw⟩
        obtain rfl := hw
        go_wp2_with fail
        refine (evalK wr fb p sg k FW.out HW.out hk3).mono ?_
        rintro e w' ⟨rfl, n1, rfl⟩
        go_wp2_with fail
        refine (invK k hk3 hk1 fb _ (FW.out.dn _)).mono ?_
        rintro e w' ⟨rfl, n2, rfl⟩
        go_wp2
        go_roundw
        case rel =>
          refine ⟨k + 1, by omega, by omega, by go_num, by rw [RS.out]; simp, row_step HR.out HB.out (Nat.le_refl _) _ _ _ (fun i _ => ?_)⟩
          rw [RS.out, List.length_append, List.length_singleton, hi_append]
          by_cases h1 : i = (rts sg k).length
          · subst h1
            rw [if_pos rfl, if_pos (by omega), if_neg (by omega), Nat.sub_self]; rfl
          · rw [if_neg h1]
            by_cases h2 : i < (rts sg k).length
            · rw [if_pos h2, if_pos (by omega), if_pos h2]
            · rw [if_neg h2, if_neg (by omega)]
        case measure => simp [intOf]; omega
      · have zc := beq_f0 _ hz
        have rs := rts_succ sg k hk1
        rw [if_neg hz] at rs
        have RS := Lib.hid rs; clear rs hz
        go_wp2_with fail
        refine (sizeC wr fb FW.out).mono ?_
        rintro e w' ⟨rfl, hw⟩
        obtain rfl := hw
        go_wp2_with fail
        refine (evalK wr fb p sg k FW.out HW.out hk3).mono ?_
        rintro e w' ⟨rfl, n1, rfl⟩
        go_wp2
        go_roundw
        case rel => exact ⟨k + 1, by omega, by omega, by go_num, by rw [RS.out], by rw [RS.out]; exact HR.out, HB.out.trans (below_dn _ _ _)⟩
        case measure => simp [intOf]; omega
    · have hend : rts sg 256 = rts sg k := by
        by_cases hk3 : k < 256
        · have := rts_stop sg k (256 - k) hk1
          rw [show k + (256 - k) = 256 by omega] at this
          exact this (by omega)
        · rw [show k = 256 by omega]
      have HE := Lib.hid hend
      have hln : (rts sg k).length = sg.length - 1 := by rw [← hend]; exact l2
      have hli : ((rts sg k).length : Int) = (sg.length : Int) - 1 := by omega
      have g2 : ¬ ((sg.length : Int) - 1 < (sg.length : Int) - 1) := by omega
      clear hend
      go_wp2_with fail
      refine (sizeC wr fb FW.out).mono ?_
      rintro e w' ⟨rfl, hw⟩
      obtain rfl := hw
      by_cases hk3 : k < 256
      · have g1 : (k : Int) < 256 := by omega
        go_wp2
        go_ret2
        refine ⟨w.heap.size, sg.length - 1, by rw [l2]; rfl, by omega, Nat.le_refl _, HR.out.lt, Cs.of_row HR.out (by omega) (fun i hi' => ?_), HB.out⟩
        rw [HE.out, if_pos (by rw [← HE.out]; exact hi')]
      · have g1 : ¬ (k : Int) < 256 := by omega
        go_wp2
        go_ret2
        refine ⟨w.heap.size, sg.length - 1, by rw [l2]; rfl, by omega, Nat.le_refl _, HR.out.lt, Cs.of_row HR.out (by omega) (fun i hi' => ?_), HB.out⟩
        rw [HE.out, if_pos (by rw [← HE.out]; exact hi')]

theorem locsC (w : World) (fb d p : Nat) (sg : List F) (l : Er) (hf : Fld w fb) (hd : w.cell? ⟨d, 0, none⟩ = some (pt fb)) (hds : d < w.heap.size)
    (hl : Poly w fb p sg) (hn : sg.length ≤ 400) (hg : Zx.Good l) (hw : Wf sg) (hco : co sg = Lam l) :
    Calls Tryz.prog 169 #[pt d, pt p] w (MkSl w (locs sg)) := by
  unfold locs
  by_cases h2 : sg.length = 2
  · rw [if_pos h2]; exact locs_one w fb d p sg hl h2
  · rw [if_neg h2]; exact locs_any w fb d p sg l hf hd hds hl h2 hn hg hw hco
end Go.Proofs.YtcnallabiffemaaGreatDoor
namespace Go.Proofs.YtcnallabiffemaaGreatDoor
open Go.RowKit (wrap32 wrap64 intOf Hid Below)
open Zx

theorem pl1_all : ∀ n : Fin 256, (if bits .and .i64 (n.1 : Int) 1 = 0 then bits .or .i64 (n.1 : Int) 1 else bits .and .i64 (n.1 : Int) (-2)) = ((n.1 ^^^ 1 : Nat) : Int) := by decide +kernel
theorem pl1_e (a : F) (h : bits .and .i64 (a.v : Int) 1 = 0) : bits .or .i64 (a.v : Int) 1 = ((a + 1).v : Int) := by
  have := pl1_all ⟨a.v, a.lt⟩
  rw [if_pos h] at this; exact this
theorem pl1_o (a : F) (h : bits .and .i64 (a.v : Int) 1 ≠ 0) : bits .and .i64 (a.v : Int) (-2) = ((a + 1).v : Int) := by
  have := pl1_all ⟨a.v, a.lt⟩
  rw [if_neg h] at this; exact this

theorem baseC (w : World) (fb : Nat) (h : Fld w fb) : Calls Tryz.prog 166 #[pt fb] w fun e w' => e = .returned (.int .i64 1) ∧ w = w' := by
  obtain ⟨⟨eb, lb, _, _, h1, _⟩, _⟩ := h
  have h4 := h1.c6
  clear h1
  go_enter Tryz.func166, Tryz.ntmps166
  go_wp2
  go_ret
  exact ⟨rfl, rfl⟩

/-- the magnitudes -/
def mags (om L : List F) : List F := (List.range L.length).map (mag om L)

set_option maxRecDepth 100000 in
set_option maxHeartbeats 1000000 in
theorem magsC (w : World) (fb d p b c : Nat) (om L : List F) (hf : Fld w fb) (hd : w.cell? ⟨d, 0, none⟩ = some (pt fb)) (hds : d < w.heap.size)
    (hl : Poly w fb p om) (hn : L.length ≤ 400) (hc : L.length ≤ c) (hb : b < w.heap.size) (hcs : Cs w b 0 L) (hok : ∀ i, i < L.length → hi L i ≠ 0 ∧ denom L i L.length ≠ 0) :
    Calls Tryz.prog 170 #[pt d, pt p, .slice (some ⟨b, 0, none⟩) L.length c] w (MkSl w (mags om L)) := by
  have HL := Lib.hid hl; clear hl
  have HF := Lib.hid hf; clear hf
  have HC := Lib.hid hcs; clear hcs
  have HO := Lib.hid hok; clear hok
  have hmk := run_make_row' (P := Tryz.prog) 22 3 (.int .i64 0) 8 Tryz.underlying22 info3 rfl .i64 .i64 L.length (by omega) (by omega)
  go_enter Tryz.func170, Tryz.ntmps170
  go_wp2_with fail
  go_loopw [10] (fun i wr => ∃ k : Nat, k ≤ L.length ∧ i = .int .i64 k ∧ wr.rowIs w.heap.size 3 L.length (fun j => if j < k then fv (mag om L j) else .int .i64 0) ∧ Below w.heap.size w wr)
    (fun i _ => L.length - (intOf i).toNat)
  case atStart =>
    refine ⟨0, Nat.zero_le _, rfl, (World.rowIs_made _ _ _ _).congr fun i _ => ?_, (Below.refl _ _).alloc (Nat.le_refl _) _⟩
    rw [if_neg (Nat.not_lt_zero i)]
  case round =>
    obtain ⟨i, hi2, rfl, hr, hb2⟩ := hrel
    have f0 : wr.cell? ⟨d, 0, none⟩ = some (pt fb) := (hb2.cell (p := ⟨d, 0, none⟩) hds).trans hd
    have FW := Lib.hid (HF.out.below hb2)
    have HW := Lib.hid (HL.out.below hb2)
    have CW := Lib.hid (HC.out.below hb hb2)
    have HR := Lib.hid hr; clear hr
    have hsz := hb2.size
    have HB := Lib.hid hb2; clear hb2
    by_cases hlt : i < L.length
    · have ci : wr.cell? ⟨b, 0 + i, none⟩ = some (fv (hi L i)) := CW.out i hlt
      rw [Nat.zero_add] at ci
      have hi0 := (HO.out i hlt).1
      have HI0 := Lib.hid hi0; clear hi0
      have gc := HR.out.cell hlt
      have gf := HR.out.frozen i
      obtain ⟨wo, rfl⟩ : ∃ wo : World, wo = wr := ⟨_, rfl⟩
      go_wp2_with fail
      go_quiet ((go_at_call 214; exact Calls.quiet_of (invC _ HI0.out fb _ (FW.out.dn _))))
      go_wp2_with fail
      go_loopw [13, 14] (fun den j wr => ∃ k n : Nat, k ≤ L.length ∧ j = .int .i64 k ∧ den = fv (denom L i k) ∧ wr = wo.drewN n)
        (fun _ j _ => L.length - (intOf j).toNat)
      case atStart => exact ⟨0, _, Nat.zero_le _, rfl, rfl, rfl⟩
      case round =>
        obtain ⟨k, m, hk, rfl, rfl, hw⟩ := hrel
        have q0 : wr.cell? ⟨d, 0, none⟩ = some (pt fb) := by rw [hw]; exact f0
        have QF : Hid (Fld wr fb) := by rw [hw]; exact FW.out.dn m
        by_cases hkt : k < L.length
        · have qk : wr.cell? ⟨b, 0 + k, none⟩ = some (fv (hi L k)) := by rw [hw]; exact CW.out k hkt
          rw [Nat.zero_add] at qk
          have HW2 := Lib.hid hw; clear hw
          by_cases hik : i = k
          · have bik : ((i : Int) != (k : Int)) = false := int_nf (by omega)
            have hden : denom L i (k + 1) = denom L i k := by rw [denom, if_pos hik]
            have HD := Lib.hid hden; clear hden
            go_wp2
            go_roundw
            case rel => exact ⟨k + 1, m, by omega, by go_num, by rw [HD.out], HW2.out⟩
            case measure => simp [intOf]; omega
          · have bik : ((i : Int) != (k : Int)) = true := int_nt (by omega)
            have hden : denom L i (k + 1) = denom L i k * (hi L k * (hi L i).inv + 1) := by rw [denom, if_neg hik]
            have HD := Lib.hid hden; clear hden
            go_wp2_with fail
            go_quiet ((go_at_call 209; exact Calls.quiet_of (mulF _ _ fb _ (QF.out.dn _))))
            by_cases hev : bits .and .i64 (((hi L k * (hi L i).inv).v : Nat) : Int) 1 = 0
            · have be := int_bt hev
              have e1 := pl1_e _ hev
              clear hev
              go_wp2_with fail
              refine (mulF _ _ fb _ (QF.out.dn _)).mono ?_
              rintro e w' ⟨rfl, n2, rfl⟩
              go_wp2
              go_roundw
              case rel => exact ⟨k + 1, _, by omega, by go_num, by rw [HD.out], by rw [HW2.out, World.drewN_drewN]⟩
              case measure => simp [intOf]; omega
            · have be := int_bf hev
              have e1 := pl1_o _ hev
              clear hev
              go_wp2_with fail
              refine (mulF _ _ fb _ (QF.out.dn _)).mono ?_
              rintro e w' ⟨rfl, n2, rfl⟩
              go_wp2
              go_roundw
              case rel => exact ⟨k + 1, _, by omega, by go_num, by rw [HD.out], by rw [HW2.out, World.drewN_drewN]⟩
              case measure => simp [intOf]; omega
        · obtain rfl : k = L.length := by omega
          have hd0 := (HO.out i hlt).2
          have HD0 := Lib.hid hd0; clear hd0
          have QL : Hid (Poly wr fb p om) := by rw [hw]; exact HW.out
          have hb3 : Below w.heap.size w wr := by rw [hw]; exact HB.out.trans (below_dn _ _ _)
          have hr3 : wr.rowIs w.heap.size 3 L.length (fun j => if j < i then fv (mag om L j) else .int .i64 0) := by rw [hw]; exact HR.out
          have hi3 : wr.cell? ⟨w.heap.size, i, none⟩ = some (if i < i then fv (mag om L i) else .int .i64 0) := hr3.cell hlt
          have gf3 := hr3.frozen i
          have HB3 := Lib.hid hb3; clear hb3
          have HR3 := Lib.hid hr3; clear hr3
          clear hw gf gc
          go_wp2_with fail
          refine (invC _ HD0.out fb _ QF.out).mono ?_
          rintro e w' ⟨rfl, n2, rfl⟩
          obtain ⟨wq, hwq, q1, qf, ql, hbq, hrq⟩ : ∃ wq, wr.drewN n2 = wq ∧ wq.cell? ⟨d, 0, none⟩ = some (pt fb) ∧ Fld wq fb ∧ Poly wq fb p om ∧ Below w.heap.size w wq ∧
              wq.rowIs w.heap.size 3 L.length (fun j => if j < i then fv (mag om L j) else .int .i64 0) :=
            ⟨_, rfl, q0, QF.out.dn _, QL.out.drewN _, HB3.out.trans (below_dn _ _ _), HR3.out⟩
          rw [hwq]
          clear q0 QF QL HB3 HR3 hi3 gf3 hwq
          have gq : wq.cell? ⟨w.heap.size, i, none⟩ = some (if i < i then fv (mag om L i) else .int .i64 0) := hrq.cell hlt
          have gf := hrq.frozen i
          have QF := Lib.hid qf; clear qf
          have QL := Lib.hid ql; clear ql
          have HBQ := Lib.hid hbq; clear hbq
          have HRQ := Lib.hid hrq; clear hrq
          go_wp2_with fail
          refine wp_region_quiet_tail 12 (by kernel_rfl) (by kernel_rfl) ?_
          simp only [List.take_succ_cons, List.take_zero, List.drop_succ_cons, List.drop_zero]
          repeat (first | go_big_quiet_step (first | ((go_at_call 164; exact Calls.quiet_of (evalF _ fb p _ _ (QF.out.dn _) (QL.out.drewN _)))) | ((go_at_call 209; exact Calls.quiet_of (mulF _ _ fb _ (QF.out.dn _))))) | quiet_step (first | ((go_at_call 164; exact Calls.quiet_of (evalF _ fb p _ _ (QF.out.dn _) (QL.out.drewN _)))) | ((go_at_call 209; exact Calls.quiet_of (mulF _ _ fb _ (QF.out.dn _))))))
          refine wpQuiet_nil ?_
          intro _ hw1q
          obtain ⟨nq, hw2q⟩ := hw1q
          subst hw2q
          go_wp2_with fail
          have rs := row_step HRQ.out HBQ.out (Nat.le_refl _) nq i (fv (hrn (hi L i).inv om * (denom L i L.length).inv)) (fun j _ => rfl)
          have dS : d < w.heap.size := hds
          obtain ⟨ws, hws, q2, qf, ci2, hbs, hrs⟩ : ∃ ws, (wq.drewN nq).setCell ⟨w.heap.size, i, none⟩ (fv (hrn (hi L i).inv om * (denom L i L.length).inv)) = ws ∧ ws.cell? ⟨d, 0, none⟩ = some (pt fb) ∧ Fld ws fb ∧
              ws.cell? ⟨b, 0 + i, none⟩ = some (fv (hi L i)) ∧ Below w.heap.size w ws ∧
              ws.rowIs w.heap.size 3 L.length (fun j => if j = i then fv (hrn (hi L i).inv om * (denom L i L.length).inv) else if j < i then fv (mag om L j) else .int .i64 0) :=
            ⟨_, rfl, (rs.2.cell (p := ⟨d, 0, none⟩) hds).trans hd, HF.out.below rs.2, (HC.out.below hb rs.2) i hlt, rs.2, rs.1⟩
          rw [Nat.zero_add] at ci2
          rw [show (Value.int IntKind.i64 ((hrn (hi L i).inv om * (denom L i L.length).inv).v : Int)) = fv (hrn (hi L i).inv om * (denom L i L.length).inv) from rfl, hws]
          have QF2 := Lib.hid qf; clear qf
          have HBS := Lib.hid hbs; clear hbs
          clear QF QL HBQ HRQ rs hws gq gf q1
          have gs : ws.cell? ⟨w.heap.size, i, none⟩ = some (fv (hrn (hi L i).inv om * (denom L i L.length).inv)) := by rw [hrs.cell hlt, if_pos rfl]
          have gf := hrs.frozen i
          have HRS := Lib.hid hrs; clear hrs
          refine (baseC _ fb QF2.out).mono ?_
          rintro e w' ⟨rfl, hw⟩
          obtain rfl := hw
          go_wp2_with fail
          refine wp_region_quiet_tail 13 (by kernel_rfl) (by kernel_rfl) ?_
          simp only [List.take_succ_cons, List.take_zero, List.drop_succ_cons, List.drop_zero]
          repeat (first | go_big_quiet_step ((go_at_call 209; exact Calls.quiet_of (mulF _ _ fb _ (QF2.out.dn _)))) | quiet_step ((go_at_call 209; exact Calls.quiet_of (mulF _ _ fb _ (QF2.out.dn _)))))
          refine wpQuiet_nil ?_
          intro _ hw1q
          obtain ⟨nq, hw2q⟩ := hw1q
          subst hw2q
          go_wp2
          go_roundw
          case rel =>
            refine ⟨i + 1, by omega, by go_num, row_step HRS.out HBS.out (Nat.le_refl _) _ _ _ (fun j _ => ?_)⟩
            by_cases h1 : j = i
            · subst h1; rw [if_pos rfl, if_pos (by omega)]; rfl
            · rw [if_neg h1, if_neg h1]
              by_cases h2 : j < i
              · rw [if_pos h2, if_pos (by omega)]
              · rw [if_neg h2, if_neg (by omega)]
          case measure => simp [intOf]; omega
    · obtain rfl : i = L.length := by omega
      go_wp2
      go_ret2
      have lm : (mags om L).length = L.length := by simp [mags]
      refine ⟨w.heap.size, L.length, by rw [lm]; rfl, by omega, Nat.le_refl _, HR.out.lt, Cs.of_row HR.out (by omega) (fun i hi' => ?_), HB.out⟩
      rw [lm] at hi'
      rw [if_pos hi']; unfold mags; rw [hi_map _ _ _ hi']
end Go.Proofs.YtcnallabiffemaaGreatDoor
namespace Go.Proofs.YtcnallabiffemaaGreatDoor
open Go.RowKit (wrap32 wrap64 intOf Hid Below)
open Zx

theorem expC (w : World) (fb i : Nat) (h : Fld w fb) (hi' : i < 256) : Calls Tryz.prog 165 #[pt fb, .int .i64 i] w fun e w' => e = .returned (fv (al i)) ∧ w = w' := by
  obtain ⟨⟨eb, lb, _, _, h1, _⟩, _⟩ := h
  have h0 := h1.c0
  have ht := h1.te i hi'
  clear h1
  go_enter Tryz.func165, Tryz.ntmps165
  go_wp2
  go_ret
  exact ⟨rfl, rfl⟩

theorem logC (w : World) (fb : Nat) (a : F) (ha : a ≠ 0) (h : Fld w fb) : Calls Tryz.prog 171 #[pt fb, fv a] w fun e w' => e = .returned (.tuple #[.int .i64 (lg a.v), .nilIface]) ∧ w = w' := by
  obtain ⟨⟨eb, lb, _, _, h1, _⟩, _⟩ := h
  have h0 := h1.c1
  have ht := h1.tl a.v a.lt
  rw [show lgt a.v = lg a.v from if_neg (v_ne ha)] at ht
  have zc := beq_f0 _ ha
  have hv := a.lt
  clear h1
  go_enter Tryz.func171, Tryz.ntmps171
  go_wp2
  go_ret2
  exact ⟨rfl, rfl⟩

theorem hrn_nrm (x : F) (l : List F) : hrn x (nrm l) = hrn x l := by
  rw [hrn_ev, hrn_ev, co_nrm]
  have h1 : Bd (nrm l).length (co l) := by rw [← co_nrm]; exact co_bd _
  have h2 := co_bd l
  rcases Nat.le_total l.length (nrm l).length with h | h
  · exact ev_bd h2 h x
  · exact (ev_bd h1 h x).symm

/-- where a row of another block is set -/
theorem Cs.set {w : World} {b o : Nat} {l : List F} (h : Cs w b o l) {p : Nat} (hp : p ≠ b) (k : Nat) (v : Value) : Cs (w.setCell ⟨p, k, none⟩ v) b o l := fun i hi' => by
  exact (World.cell?_setCell_other _ _ _ _ (fun e => hp (congrArg Addr.block e))).trans (h i hi')

theorem expI (w : World) (fb i : Nat) (x : Int) (h : Fld w fb) (hi' : i < 256) (hx : x = (i : Int)) : Calls Tryz.prog 165 #[pt fb, .int .i64 x] w fun e w' => e = .returned (fv (al i)) ∧ w = w' := by
  subst hx; exact expC w fb i h hi'

def synOk (r : List F) (k : Nat) : Bool := decide (∀ i, i < k → hrn (al (i + 1)) r = 0)

set_option maxRecDepth 100000 in
set_option maxHeartbeats 2000000 in
theorem rsC (w0 w : World) (fb d b n : Nat) (r c : List F) (h0 : Below w0.heap.size w0 w) (hf : Fld w0 fb) (hd : w0.cell? ⟨d, 0, none⟩ = some (pt fb)) (hds : d < w0.heap.size)
    (hb : w0.heap.size ≤ b) (hr : w.rowIs b 3 r.length (fun i => fv (hi r i))) (hN : r.length ≤ 255) (hN0 : 0 < r.length) (hl : c.length = r.length) (hn0 : 0 < n) (hn : n ≤ 100)
    (hc : ∀ i, i < n → hrn (al (i + 1)) c = 0) (hv : 2 * (er r c).length ≤ n) :
    Calls Tryz.prog 93 #[pt d, .slice (some ⟨b, 0, none⟩) r.length r.length, .int .i64 n] w fun e w' => e = .returned .nilIface ∧ w'.rowIs b 3 r.length (fun i => fv (hi c i)) ∧ Below b w w' := by
  have HF := Lib.hid hf; clear hf
  have HC := Lib.hid hc; clear hc
  have HV := Lib.hid hv; clear hv
  have FW := Lib.hid (HF.out.below h0)
  have f0 := (h0.cell (p := ⟨d, 0, none⟩) hds).trans hd
  have hbl := hr.lt
  have hsz := h0.size
  have HR := Lib.hid hr; clear hr
  have H0 := Lib.hid h0; clear h0
  have HCS := Lib.hid (Cs.of_row HR.out (Nat.le_refl _) (fun _ _ => rfl))
  have hmk := run_make_row' (P := Tryz.prog) 22 3 (.int .i64 0) 8 Tryz.underlying22 info3 rfl .i64 .i64 n (by omega) (by omega)
  go_enter Tryz.func93, Tryz.ntmps93
  go_wp2_with fail
  refine (newPoly_any w fb b 0 _ r hN0 (by omega) (Nat.le_refl _) hbl HCS.out).mono ?_
  rintro e w1 ⟨p, rfl, hp, hb1⟩
  have HP := Lib.hid hp; clear hp
  have hs1 := hb1.size
  have F1 := Lib.hid (FW.out.below hb1)
  have g0 := (hb1.cell (p := ⟨d, 0, none⟩) (show d < _ by omega)).trans f0
  have HB1 := Lib.hid hb1; clear hb1
  go_wp2_with fail
  go_loopw [10, 11] (fun ne i wr => ∃ k : Nat, k ≤ n ∧ i = .int .i64 k ∧ ne = .bool (synOk r k) ∧
      wr.rowIs w1.heap.size 3 n (fun j => if n - 1 - j < k then fv (hrn (al (n - j)) r) else .int .i64 0) ∧ Below w1.heap.size w1 wr)
    (fun _ i _ => n - (intOf i).toNat)
  case atStart =>
    refine ⟨0, Nat.zero_le _, rfl, by simp [synOk], (World.rowIs_made _ _ _ _).congr fun i _ => ?_, (Below.refl _ _).alloc (Nat.le_refl _) _⟩
    rw [if_neg (Nat.not_lt_zero _)]
  case round =>
    obtain ⟨k, hk, rfl, rfl, hr, hb2⟩ := hrel
    have f1 := (hb2.cell (p := ⟨d, 0, none⟩) (show d < _ by omega)).trans g0
    have FR := Lib.hid (F1.out.below hb2)
    have PR := Lib.hid (HP.out.below hb2)
    have hs2 := hb2.size
    have HR2 := Lib.hid hr; clear hr
    have HB2 := Lib.hid hb2; clear hb2
    by_cases hkn : k < n
    · have e3 : ((n : Int) - 1 - (k : Int)).toNat = n - 1 - k := by omega
      have i1 : (0 : Int) ≤ (n : Int) - 1 - (k : Int) := by omega
      have i2 : (n : Int) - 1 - (k : Int) < (n : Int) := by omega
      have gc := HR2.out.cell (i := n - 1 - k) (by omega)
      have gf := HR2.out.frozen (n - 1 - k)
      have hrow : ∀ j, j < n → (if j = n - 1 - k then fv (hrn (al (k + 1)) (nrm r)) else if n - 1 - j < k then fv (hrn (al (n - j)) r) else .int .i64 0) = (if n - 1 - j < k + 1 then fv (hrn (al (n - j)) r) else .int .i64 0) := by
        intro j hj
        by_cases h1 : j = n - 1 - k
        · rw [if_pos h1, if_pos (by omega), hrn_nrm, show n - j = k + 1 by omega]
        · rw [if_neg h1]
          by_cases h2 : n - 1 - j < k
          · rw [if_pos h2, if_pos (by omega)]
          · rw [if_neg h2, if_neg (by omega)]
      have HROW := Lib.hid hrow; clear hrow
      go_wp2_with fail
      go_quiet (first | ((go_at_call 166; exact Calls.quiet_of_same ((baseC _ fb (FR.out.dn _)).mono fun _ _ h => ⟨h.1, h.2.symm⟩))) | ((go_at_call 165; exact Calls.quiet_of_same ((expI _ fb (k + 1) _ (FR.out.dn _) (by omega) (by omega)).mono fun _ _ h => ⟨h.1, h.2.symm⟩))) | ((go_at_call 164; exact Calls.quiet_of (evalF _ fb p _ _ (FR.out.dn _) (PR.out.drewN _)))))
      by_cases hz : hrn (al (k + 1)) (nrm r) = 0
      · have zb : ((hrn (al (k + 1)) (nrm r)).v : Int) ≠ 0 → False := fun h => h (by rw [hz]; rfl)
        have zc : (((hrn (al (k + 1)) (nrm r)).v : Int) != 0) = false := int_nf (by rw [hz]; rfl)
        have hso : synOk r (k + 1) = synOk r k := by
          unfold synOk
          rw [hrn_nrm] at hz
          congr 1
          refine propext ⟨fun h i hi' => h i (by omega), fun h i hi' => ?_⟩
          by_cases h1 : i = k
          · subst h1; exact hz
          · exact h i (by omega)
        have HSO := Lib.hid hso; clear hso hz zb
        go_wp2
        go_roundw
        case rel => exact ⟨k + 1, by omega, by go_num, by rw [HSO.out], row_step HR2.out HB2.out (Nat.le_refl _) _ _ _ HROW.out⟩
        case measure => simp [intOf]; omega
      · have zc : (((hrn (al (k + 1)) (nrm r)).v : Int) != 0) = true := int_nt (fun h => hz (F.ext (by show _ = (0 : Nat); exact_mod_cast h)))
        have hso : synOk r (k + 1) = false := by
          unfold synOk
          rw [hrn_nrm] at hz
          exact decide_eq_false fun h => hz (h k (by omega))
        have HSO := Lib.hid hso; clear hso hz
        go_wp2
        go_roundw
        case rel => exact ⟨k + 1, by omega, by go_num, by rw [HSO.out], row_step HR2.out HB2.out (Nat.le_refl _) _ _ _ HROW.out⟩
        case measure => simp [intOf]; omega
    · obtain rfl : k = n := by omega
      by_cases hall : ∀ i, i < k → hrn (al (i + 1)) r = 0
      · have hso : synOk r k = true := decide_eq_true hall
        have hrc := no_errors hN hl HC.out HV.out hall
        have HRC := Lib.hid hrc; clear hrc hall
        rw [hso]
        clear hso
        go_wp2
        go_ret
        have B1 : Below w.heap.size w wr := HB1.out.trans (HB2.out.mono hs1)
        exact ⟨rfl, by rw [← HRC.out]; exact rowIs_below HR.out B1 hbl, B1.mono (by omega)⟩
      · have hso : synOk r k = false := decide_eq_false hall
        clear hall
        rw [hso]
        clear hso
        go_wp2_with fail
        have hsl : (synd r k).length = k := by simp [synd]
        have hmo : Mo k (co (nrm (synd r k))) (Sy (er r c)) := fun i hi' => by
          rw [co_nrm, co_synd r k i hi', Sy_er r c i hl (HC.out i hi')]
        have hgood := er_good r c hN
        have HG := Lib.hid hgood; clear hgood
        have HM := Lib.hid hmo; clear hmo
        have hnl : (nrm (synd r k)).length ≤ k := by have := nrm_len (synd r k); rw [hsl] at this; omega
        refine (newPoly_of wr fb w1.heap.size 0 _ _ (synd r k) hsl hn0 (by omega) (Nat.le_refl _) (HR2.out.lt) (Cs.of_row HR2.out (by rw [hsl]; exact Nat.le_refl _) (fun i hi' => ?_))).mono ?_
        · rw [hsl] at hi'
          rw [if_pos (by omega)]; unfold synd; rw [hi_map _ _ _ hi']
        rintro e w2 ⟨p2, rfl, hp, x2⟩
        have P2 := Lib.hid hp; clear hp
        have F2 := Lib.hid (FR.out.below x2)
        have q2 := (x2.cell (p := ⟨d, 0, none⟩) (show d < _ by omega)).trans f1
        have z2 := x2.size
        have X2 := Lib.hid x2; clear x2
        go_wp2_with fail
        refine (monoI w2 fb k _ 1 F2.out (by omega) rfl).mono ?_
        rintro e w3 ⟨p3, rfl, hp, x3⟩
        have P3 := Lib.hid hp; clear hp
        have P2' := Lib.hid (P2.out.below x3)
        have F3 := Lib.hid (F2.out.below x3)
        have q3 := (x3.cell (p := ⟨d, 0, none⟩) (show d < _ by omega)).trans q2
        have z3 := x3.size
        have X3 := Lib.hid x3; clear x3
        go_wp2_with fail
        refine (euclidC w3 fb d p3 p2 k _ (er r c) F3.out q3 (by omega) P3.out P2'.out (Wf_nrm _) hnl hn0 (by omega) HG.out HV.out HM.out).mono ?_
        rintro e w4 ⟨s1, s2, sg, om, rfl, hs, ho, ws, wo, cs, co', x4⟩
        have SG := Lib.hid hs; clear hs
        have OM := Lib.hid ho; clear ho
        have F4 := Lib.hid (F3.out.below x4)
        have q4 := (x4.cell (p := ⟨d, 0, none⟩) (show d < _ by omega)).trans q3
        have z4 := x4.size
        have X4 := Lib.hid x4; clear x4
        have CS := Lib.hid cs; clear cs
        have CO := Lib.hid co'; clear co'
        have WS := Lib.hid ws; clear ws wo
        have lsg := sg_len HG.out WS.out CS.out
        have ler := HV.out
        go_wp2_with fail
        refine (locsC w4 fb d s1 sg (er r c) F4.out q4 (by omega) SG.out (by omega) HG.out WS.out CS.out).mono ?_
        rintro e w5 ⟨bL, cL, rfl, l1, l2, l3, hcl, x5⟩
        have hperm := locs_perm HG.out WS.out CS.out
        obtain ⟨L, hL⟩ : ∃ L, locs sg = L := ⟨_, rfl⟩
        rw [hL] at hperm hcl l1
        rw [hL]
        have lL : L.length = (er r c).length := by rw [hperm.length_eq]; simp
        have lb : L.length ≤ 100 := by omega
        clear hL lL
        have HFX := fixed_ok hN hl CO.out hperm
        obtain ⟨hfx, hok⟩ := HFX
        have HFX := Lib.hid hfx; clear hfx
        have HOK := Lib.hid hok; clear hok hperm
        have CL := Lib.hid hcl; clear hcl
        have F5 := Lib.hid (F4.out.below x5)
        have q5 := (x5.cell (p := ⟨d, 0, none⟩) (show d < _ by omega)).trans q4
        have OM' := Lib.hid (OM.out.below x5)
        have z5 := x5.size
        have X5 := Lib.hid x5; clear x5
        go_wp2_with fail
        refine (magsC w5 fb d s2 bL cL om L F5.out q5 (by omega) OM'.out (by omega) l1 l3 CL.out (fun i hi' => ⟨(HOK.out i hi').1, (HOK.out i hi').2.2⟩)).mono ?_
        rintro e w6 ⟨bM, cM, rfl, m1, m2, m3, hcm, x6⟩
        have CM := Lib.hid hcm; clear hcm
        have lM : (mags om L).length = L.length := by simp [mags]
        have CL' := Lib.hid (CL.out.below l3 x6)
        have z6 := x6.size
        have XX : Below w.heap.size w w6 := by
          have y1 : Below w.heap.size w wr := HB1.out.trans (HB2.out.mono hs1)
          have y2 := y1.trans (X2.out.mono (by omega))
          have y3 := y2.trans (X3.out.mono (by omega))
          have y4 := y3.trans (X4.out.mono (by omega))
          have y5 := y4.trans (X5.out.mono (by omega))
          exact y5.trans (x6.mono (by omega))
        have BX := Lib.hid XX; clear XX x6
        go_wp2_with fail
        go_loopw [19] (fun i wr => ∃ j : Nat, j ≤ L.length ∧ i = .int .i64 j ∧ wr.rowIs b 3 r.length (fun x => fv (hi (fixed om L j r) x)) ∧ Cs wr bL 0 L ∧ Cs wr bM 0 (mags om L) ∧ Below b w wr)
          (fun i _ => L.length - (intOf i).toNat)
        case atStart => exact ⟨0, Nat.zero_le _, rfl, rowIs_below HR.out BX.out hbl, CL'.out, CM.out, BX.out.mono (by omega)⟩
        case round =>
          obtain ⟨j, hj, rfl, hr7, hl7, hm7, hb7⟩ := hrel
          have H7 := hb7
          have F7 : Below w0.heap.size w0 wr := H0.out.trans (hb7.mono hb)
          have FQ := Lib.hid (HF.out.below F7)
          have f7 := (F7.cell (p := ⟨d, 0, none⟩) hds).trans hd
          clear F7 H7
          have R7 := Lib.hid hr7; clear hr7
          have L7 := Lib.hid hl7; clear hl7
          have M7 := Lib.hid hm7; clear hm7
          have B7 := Lib.hid hb7; clear hb7
          by_cases hjl : j < L.length
          · obtain ⟨hne, hlg, _⟩ := HOK.out j hjl
            have cl : wr.cell? ⟨bL, 0 + j, none⟩ = some (fv (hi L j)) := L7.out j hjl
            have cm : wr.cell? ⟨bM, 0 + j, none⟩ = some (fv (hi (mags om L) j)) := M7.out j (by rw [lM]; exact hjl)
            rw [Nat.zero_add] at cl cm
            have em : hi (mags om L) j = mag om L j := by unfold mags; rw [hi_map _ _ _ hjl]
            rw [em] at cm
            clear em
            obtain ⟨g, hg⟩ : ∃ g, lg (hi L j).v = g := ⟨_, rfl⟩
            rw [hg] at hlg
            have cp := R7.out.cell (i := r.length - 1 - g) (by omega)
            have fp := R7.out.frozen (r.length - 1 - g)
            have e3 : ((r.length : Int) - 1 - (g : Int)).toNat = r.length - 1 - g := by omega
            have i1 : (0 : Int) ≤ (r.length : Int) - 1 - (g : Int) := by omega
            have i2 : (r.length : Int) - 1 - (g : Int) < (r.length : Int) := by omega
            have i3 : ¬ ((r.length : Int) - 1 - (g : Int) < 0) := by omega
            have HG2 := Lib.hid hg; clear hg
            have HNE := Lib.hid hne; clear hne
            have hlgC := logC (fb := fb) (a := hi L j) (ha := HNE.out)
            rw [HG2.out] at hlgC
            go_wp2_with fail
            go_quiet ((go_at_call 171; exact Calls.quiet_of_same ((hlgC _ (FQ.out.dn _)).mono fun _ _ h => ⟨h.1, h.2.symm⟩)))
            go_wp2_with fail
            refine wp_region_quiet_tail 12 (by kernel_rfl) (by kernel_rfl) ?_
            simp only [List.take_succ_cons, List.take_zero, List.drop_succ_cons, List.drop_zero]
            repeat (first | go_big_quiet_step ((go_at_call 173; refine (xorc _ _ _).mono ?_; rintro e w' ⟨rfl, rfl⟩; exact ⟨rfl, _, rfl⟩)) | quiet_step ((go_at_call 173; refine (xorc _ _ _).mono ?_; rintro e w' ⟨rfl, rfl⟩; exact ⟨rfl, _, rfl⟩)))
            refine wpQuiet_nil ?_
            intro _ hw1q
            obtain ⟨nq, hw2q⟩ := hw1q
            subst hw2q
            go_wp2
            go_roundw
            case rel =>
              have st := fun m => row_step R7.out B7.out (Nat.le_refl b) m (r.length - 1 - g) (fv (hi (fixed om L j r) (r.length - 1 - g) + mag om L j)) (g := fun x => fv (hi (fixed om L (j + 1) r) x)) (fun x hx => by
                show _ = fv (hi ((fixed om L j r).set (r.length - 1 - lg (hi L j).v) (hi (fixed om L j r) (r.length - 1 - lg (hi L j).v) + mag om L j)) x)
                rw [HG2.out, hi_set _ _ _ _ (by rw [fixed_len]; exact hx)]
                by_cases h1 : x = r.length - 1 - g
                · rw [if_pos h1, if_pos h1.symm]
                · rw [if_neg h1, if_neg (Ne.symm h1)])
              exact ⟨j + 1, by omega, by go_num, (st _).1, Cs.set (w := wr.drewN _) L7.out (by omega) _ _, Cs.set (w := wr.drewN _) M7.out (by omega) _ _, (st _).2⟩
            case measure => simp [intOf]; omega
          · obtain rfl : j = L.length := by omega
            go_wp2
            go_ret
            exact ⟨rfl, R7.out.congr fun x _ => by rw [HFX.out], B7.out⟩
end Go.Proofs.YtcnallabiffemaaGreatDoor
namespace Go.Proofs.YtcnallabiffemaaGreatDoor
open Go.RowKit (wrap32 wrap64 intOf Hid Below)
open Zx

/-- a byte in Go, of an element of the field -/
abbrev bv (a : F) : Value := .int .u8 (a.v : Int)
theorem and255 (a : F) : bits .and .i64 (a.v : Int) 255 = (a.v : Int) := by
  have := and_i64 a.v 255 (Nat.lt_of_lt_of_le a.lt (by decide)) (by decide)
  rw [show ((255 : Nat) : Int) = 255 from rfl] at this
  rw [this]
  congr 1
  have h := Nat.and_two_pow_sub_one_eq_mod a.v 8
  rw [show 2 ^ 8 - 1 = 255 from rfl] at h
  rw [h, Nat.mod_eq_of_lt a.lt]
theorem wrap_b (a : F) : IntKind.u8.wrap (a.v : Int) = (a.v : Int) := wraps_u8 _ (Int.natCast_nonneg _) (by have := a.lt; omega)

set_option maxRecDepth 100000 in
set_option maxHeartbeats 1000000 in
theorem correctC (w0 w : World) (fb d dc b n : Nat) (r c : List F) (h0 : Below w0.heap.size w0 w) (hf : Fld w0 fb) (hd : w0.cell? ⟨d, 0, none⟩ = some (pt fb)) (hds : d < w0.heap.size)
    (hdc : w0.cell? ⟨dc, 0, none⟩ = some (pt d)) (hdcs : dc < w0.heap.size)
    (hb : w0.heap.size ≤ b) (hr : w.rowIs b 5 r.length (fun i => bv (hi r i))) (hN : r.length ≤ 255) (hl : c.length = r.length) (hn0 : 0 < n) (hn : n ≤ 100) (hnr : n ≤ r.length)
    (hc : ∀ i, i < n → hrn (al (i + 1)) c = 0) (hv : 2 * (er r c).length ≤ n) :
    Calls Tryz.prog 60 #[pt dc, .slice (some ⟨b, 0, none⟩) r.length r.length, .int .i64 ((r.length : Int) - n)] w fun e w' => e = .returned .nilIface ∧
      w'.rowIs b 5 r.length (fun i => bv (if i < r.length - n then hi c i else hi r i)) ∧ But (· = b) w w' := by
  have HF := Lib.hid hf; clear hf
  have HC := Lib.hid hc; clear hc
  have HV := Lib.hid hv; clear hv
  have e0 := (h0.cell (p := ⟨dc, 0, none⟩) hdcs).trans hdc
  have hbl := hr.lt
  have hsz := h0.size
  have HR := Lib.hid hr; clear hr
  have H0 := Lib.hid h0; clear h0
  have hmk := run_make_row' (P := Tryz.prog) 22 3 (.int .i64 0) 8 Tryz.underlying22 info3 rfl .i64 .i64 r.length (by omega) (by omega)
  go_enter Tryz.func60, Tryz.ntmps60
  go_wp2_with fail
  go_loopw [9] (fun i wr => ∃ k : Nat, k ≤ r.length ∧ i = .int .i64 k ∧ wr.rowIs w.heap.size 3 r.length (fun j => if j < k then fv (hi r j) else .int .i64 0) ∧ Below w.heap.size w wr)
    (fun i _ => r.length - (intOf i).toNat)
  case atStart =>
    refine ⟨0, Nat.zero_le _, rfl, (World.rowIs_made _ _ _ _).congr fun i _ => ?_, (Below.refl _ _).alloc (Nat.le_refl _) _⟩
    rw [if_neg (Nat.not_lt_zero i)]
  case round =>
    obtain ⟨k, hk, rfl, hr, hb2⟩ := hrel
    have e1 := (hb2.cell (p := ⟨dc, 0, none⟩) (show dc < _ by omega)).trans e0
    have hs2 := hb2.size
    have HR2 := Lib.hid hr; clear hr
    have HB2 := Lib.hid hb2; clear hb2
    by_cases hkn : k < r.length
    · have ca := (HB2.out.cell (p := ⟨b, k, none⟩) hbl).trans (HR.out.cell hkn)
      have gc := HR2.out.cell hkn
      have gf := HR2.out.frozen k
      have a1 := and255 (hi r k)
      have lt8 := (hi r k).lt
      go_wp2
      go_roundw
      case rel => exact ⟨k + 1, by omega, by go_num, row_step (wr := wr) HR2.out HB2.out (Nat.le_refl _) 0 _ _ (fun i _ => set_if (fun j => fv (hi r j)) k i _ trivial)⟩
      case measure => simp [intOf]; omega
    · obtain rfl : k = r.length := by omega
      have e4 : (r.length : Int) - ((r.length : Int) - (n : Int)) = (n : Int) := by omega
      go_wp2_with fail
      refine (rsC w0 wr fb d w.heap.size n r c (H0.out.trans (HB2.out.mono hsz)) HF.out hd hds hsz (HR2.out.congr fun x hx => by rw [if_pos hx]) hN (by omega) hl hn0 hn HC.out HV.out).mono ?_
      rintro e w3 ⟨rfl, hr3, hb3⟩
      have R3 := Lib.hid (Cs.of_row (l := c) hr3 (by omega) (fun _ _ => rfl)); clear hr3
      have B3 : Below w.heap.size w w3 := HB2.out.trans hb3
      have RB := Lib.hid (rowIs_below HR.out B3 hbl)
      have HB3 := Lib.hid B3; clear B3 hb3
      go_wp2_with fail
      go_loopw [11] (fun i wr => ∃ k : Nat, k ≤ r.length - n ∧ i = .int .i64 k ∧ wr.rowIs b 5 r.length (fun j => bv (if j < k then hi c j else hi r j)) ∧ Cs wr w.heap.size 0 c ∧ But (· = b) w wr)
        (fun i _ => r.length - n - (intOf i).toNat)
      case atStart => exact ⟨0, Nat.zero_le _, rfl, RB.out.congr fun i _ => by rw [if_neg (Nat.not_lt_zero i)], R3.out, But.ofAll HB3.out⟩
      case round =>
        obtain ⟨k, hk, rfl, hr, hcs, hb4⟩ := hrel
        have CS := Lib.hid hcs; clear hcs
        have HR4 := Lib.hid hr; clear hr
        have HB4 := Lib.hid hb4; clear hb4
        by_cases hkn : k < r.length - n
        · have ca : wr.cell? ⟨w.heap.size, 0 + k, none⟩ = some (fv (hi c k)) := CS.out k (by omega)
          rw [Nat.zero_add] at ca
          have gc := HR4.out.cell (i := k) (by omega)
          have gf := HR4.out.frozen k
          have a1 := wrap_b (hi c k)
          have g1 : (k : Int) < (r.length : Int) - (n : Int) := by omega
          have lt8 := (hi c k).lt
          go_wp2
          go_roundw
          case rel =>
            have st := row_step (wr := wr) HR4.out (Below.refl b wr) (Nat.le_refl _) 0 k (bv (hi c k)) (g := fun j => bv (if j < k + 1 then hi c j else hi r j)) (fun i _ => by
              by_cases h1 : i = k
              · subst h1; rw [if_pos rfl, if_pos (by omega)]
              · rw [if_neg h1]
                by_cases h2 : i < k
                · rw [if_pos h2, if_pos (by omega)]
                · rw [if_neg h2, if_neg (by omega)])
            exact ⟨k + 1, by omega, by go_num, st.1, CS.out.set (by omega) _ _, HB4.out.thenSet (a := ⟨b, k, none⟩) (.inl rfl) _⟩
          case measure => simp [intOf]; omega
        · obtain rfl : k = r.length - n := by omega
          have g1 : ¬ (((r.length - n : Nat) : Int) < (r.length : Int) - (n : Int)) := by omega
          go_wp2
          go_ret
          exact ⟨rfl, HR4.out, HB4.out⟩
end Go.Proofs.YtcnallabiffemaaGreatDoor
