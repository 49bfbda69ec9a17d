import Derived.Test.YtcnallabiffemaaGreatDoorM06
import Derived.Test.YtcnallabiffemaaGreatDoorM12
/- Part of the proof that a Data Matrix symbol of a text, damaged at most to half of its check codewords in each block, is decoded to the text (FnDecode): texts X2. -/
set_option linter.unusedVariables false
set_option linter.unusedSimpArgs false
namespace Go.Proofs.YtcnallabiffemaaGreatDoor
open Go.RowKit (wrap32 wrap64 intOf Hid Below)
open Zx

def SexTo (w : World) (l : List Nat) (e : Ending) (w' : World) : Prop := ∃ n words, n ≤ l.length ∧ PieceTo w words n e w' ∧ (n ≠ 0 → words = 240 :: ecw ((l.take n).map (· % 64) ++ [31]) ∧ ∀ c ∈ l.take n, 32 ≤ c ∧ c < 95)
/-- the bits that wait -/
def SxSt (c : Nat) (B : Int) (r : Nat) : Prop := (c = 0 ∧ r = 0) ∨ (c = 2 ∧ B % 4 = r) ∨ (c = 4 ∧ B % 16 = r) ∨ (c = 6 ∧ B % 64 = r)
theorem and63 (a : Nat) (h : a < 256) : bits .and .i64 (a : Int) 63 = ((a % 64 : Nat) : Int) := by
  have := and_i64 a 63 (Nat.lt_of_lt_of_le h (by decide)) (by decide)
  rw [show ((63 : Nat) : Int) = 63 from rfl] at this
  rw [this, Nat.and_two_pow_sub_one_eq_mod a 6]

/-- one more sextet -/
structure SxIn (X : List Nat) (k : Nat) : Prop where
  len : X.length = k + 1
  lt : ∀ x ∈ X, x < 64
theorem SxIn.get {X : List Nat} {k : Nat} (h : SxIn X k) (i : Nat) (hi : i < k + 1) : X.getD i 0 < 64 := by
  refine h.lt _ ?_
  rw [List.getD_eq_getElem?_getD, List.getElem?_eq_getElem (by rw [h.len]; exact hi)]
  exact List.getElem_mem _

set_option maxRecDepth 100000 in
set_option maxHeartbeats 4000000 in
theorem sextetsC (w : World) (s : ByteArray) (hs : s.size ≤ 1000) : Calls Tryz.prog 44 #[.string s] w (SexTo w (chs s)) := by
  go_enter Tryz.func44, Tryz.ntmps44
  go_wp2_with fail
  go_loopw [4] (fun s4 wr => ∃ k : Nat, k ≤ s.size ∧ s4 = .int .i64 k ∧ wr = w ∧ ∀ c ∈ (chs s).take k, 32 ≤ c ∧ c < 95) (fun s4 _ => s.size - (intOf s4).toNat)
  case atStart => exact ⟨0, Nat.zero_le _, rfl, by first | rfl | trivial, fun c hc => by simp at hc⟩
  case round =>
    obtain ⟨k, hk, rfl, hwr, hall⟩ := hrel
    rw [hwr]; clear hwr wr
    have HA := Lib.hid hall; clear hall
    go_upto_region 2 with fail
    go_cut [25] from 10 to 25 (fun s25 wx => s25 = .bool (decide (∃ h : k < s.size, 32 ≤ (s[k]).toNat ∧ (s[k]).toNat < 95)) ∧ wx = w)
    case first =>
      by_cases hks : k < s.size
      · obtain ⟨a, ha⟩ : ∃ a, (s[k]).toNat = a := ⟨_, rfl⟩
        have hd : decide (∃ h : k < s.size, 32 ≤ (s[k]).toNat ∧ (s[k]).toNat < 95) = decide (32 ≤ a ∧ a < 95) := by
          rw [← ha]; exact decide_eq_decide.2 ⟨fun ⟨_, h⟩ => h, fun h => ⟨hks, h⟩⟩
        by_cases h1 : 32 ≤ a
        · by_cases h2 : a < 95
          · rw [decide_eq_true (p := 32 ≤ a ∧ a < 95) ⟨h1, h2⟩] at hd
            have HD := Lib.hid hd; clear hd
            go_wp2
            go_meet
            exact ⟨congrArg Value.bool (by first | (rw [HD.out]; done) | (rw [HD.out]; simp; done) | (rw [HD.out]; simp; omega)), rfl⟩
          · rw [decide_eq_false (p := 32 ≤ a ∧ a < 95) (by omega)] at hd
            have HD := Lib.hid hd; clear hd
            go_wp2
            go_meet
            exact ⟨congrArg Value.bool (by first | (rw [HD.out]; done) | (rw [HD.out]; simp; done) | (rw [HD.out]; simp; omega)), rfl⟩
        · rw [decide_eq_false (p := 32 ≤ a ∧ a < 95) (by omega)] at hd
          have HD := Lib.hid hd; clear hd
          go_wp2
          go_meet
          exact ⟨congrArg Value.bool (by first | (rw [HD.out]; done) | (rw [HD.out]; simp; done) | (rw [HD.out]; simp; omega)), rfl⟩
      · have hd : decide (∃ h : k < s.size, 32 ≤ (s[k]).toNat ∧ (s[k]).toNat < 95) = false := decide_eq_false (fun ⟨h, _⟩ => hks h)
        have HD := Lib.hid hd; clear hd
        go_wp2
        go_meet
        exact ⟨congrArg Value.bool (by first | (rw [HD.out]; done) | (rw [HD.out]; simp; done) | (rw [HD.out]; simp; omega)), rfl⟩
    obtain ⟨rfl, hwc⟩ := hcut
    rw [hwc]; clear hwc wc
    by_cases hgo : ∃ h : k < s.size, 32 ≤ (s[k]).toNat ∧ (s[k]).toNat < 95
    · rw [decide_eq_true hgo]
      obtain ⟨hks, ha1, ha2⟩ := hgo
      have e0 := chs_at s k hks
      generalize (s[k]).toNat = a at e0 ha1 ha2
      have E0 := Lib.hid e0; clear e0
      have HR := Lib.hid (And.intro ha1 ha2); clear ha1 ha2
      go_wp2
      go_roundw
      case rel =>
        refine ⟨k + 1, hks, by go_num, by first | rfl | trivial, fun c hc => ?_⟩
        rw [List.take_add_one, E0.out] at hc
        rcases List.mem_append.1 hc with h | h
        · exact HA.out c h
        · simp at h; have := HR.out; omega
      case measure => simp [intOf]; omega
    · rw [decide_eq_false hgo]
      clear hgo
      by_cases hk0 : k = 0
      · subst hk0
        go_wp2
        go_ret2
        exact ⟨0, [], Nat.zero_le _, ⟨_, rfl, Ig.nil w⟩, fun h => absurd rfl h⟩
      · have q0 := int_bf (a := (k : Int)) (b := 0) (by omega)
        obtain ⟨X, hX⟩ : ∃ X, ((chs s).take k).map (· % 64) ++ [31] = X := ⟨_, rfl⟩
        have hxi : SxIn X k := by
          rw [← hX]
          refine ⟨by rw [List.length_append, List.length_map, List.length_take, chs_len, List.length_singleton]; omega, fun x hx => ?_⟩
          rcases List.mem_append.1 hx with h | h
          · obtain ⟨y, _, rfl⟩ := List.mem_map.1 h; exact Nat.mod_lt _ (by decide)
          · simp at h; omega
        have hget : ∀ i, (h : i < k) → X.getD i 0 = (s[i]'(by omega)).toNat % 64 := fun i h => by
          rw [← hX, List.getD_eq_getElem?_getD, List.getElem?_append_left (by rw [List.length_map, List.length_take, chs_len]; omega), List.getElem?_map, List.getElem?_take, if_pos h, chs_at s i (by omega)]; rfl
        have hget31 : X.getD k 0 = 31 := by
          rw [← hX, List.getD_eq_getElem?_getD, List.getElem?_append_right (by rw [List.length_map, List.length_take, chs_len]; omega), List.length_map, List.length_take, chs_len, Nat.min_eq_left hk, Nat.sub_self]; rfl
        have HX := Lib.hid hX; clear hX
        have XI := Lib.hid hxi; clear hxi
        have HG := Lib.hid hget; clear hget
        have HG31 := Lib.hid hget31; clear hget31
        have ll0 := Lib.hid (Ig.lit (Below.refl w.heap.size w) 240)
        go_wp2_with fail
        clear q0
        go_loopw [5, 6, 7, 33] (fun s5 s6 s7 s33 wr => ∃ (y : Value) (i c r : Nat) (B : Int) (acc : List Nat), y = s7 ∧ i ≤ k + 1 ∧ s33 = .int .i64 i ∧ s5 = .int .i64 B ∧ s6 = .int .i64 c ∧ SxSt c B r ∧ acc ++ sxs c r (X.drop i) = 240 :: sxs 0 0 X ∧ acc.length ≤ i + 1 ∧ Ig w wr y acc) (fun _ _ _ s33 _ => k + 1 - (intOf s33).toNat)
        case atStart => exact ⟨_, 0, 0, 0, 0, [240], rfl, Nat.zero_le _, rfl, rfl, rfl, .inl ⟨rfl, rfl⟩, rfl, Nat.le_refl _, ll0.out⟩
        case round =>
          clear ll0
          obtain ⟨y, i, c, r, B, acc, rfl, hi, rfl, rfl, rfl, hst, hacc, hal, hig⟩ := hrel
          obtain ⟨w1, rfl⟩ : ∃ w1 : World, w1 = wr := ⟨_, rfl⟩
          have HACC := Lib.hid hacc; clear hacc
          have IG := Lib.hid hig; clear hig
          have HST := Lib.hid hst; clear hst
          by_cases hik : i < k + 1
          · have hdr := drop_get X i (by rw [XI.out.len]; exact hik)
            have hxl := XI.out.get i hik
            obtain ⟨x, hx⟩ : ∃ x, X.getD i 0 = x := ⟨_, rfl⟩
            rw [hx] at hdr hxl
            have HDR := Lib.hid hdr; clear hdr
            obtain ⟨B2, hB2, hn0, hn2, hn4, hn6⟩ := sx_next B (x : Int) (by omega)
            have HN := Lib.hid (And.intro hn0 (And.intro hn2 (And.intro hn4 hn6))); clear hn0 hn2 hn4 hn6
            go_upto_if 38 with fail
            go_cut [9] from 34 to 43 (fun s9 wx => s9 = .int .i64 x ∧ wx = w1)
            case first =>
              by_cases hlt : i < k
              · have his : i < s.size := by omega
                have hgx := HG.out i hlt
                rw [hx] at hgx
                obtain ⟨a, ha⟩ : ∃ a, (s[i]).toNat = a := ⟨_, rfl⟩
                have hau : a < 256 := by rw [← ha]; exact UInt8.toNat_lt _
                rw [ha] at hgx
                have hand := and63 a hau
                rw [← hgx] at hand
                have GX := Lib.hid hgx; clear hgx hx
                go_wp2
                go_meet
                exact ⟨by first | rfl | exact val_int (by omega), rfl⟩
              · obtain rfl : i = k := by omega
                have hx31 : x = 31 := by rw [← hx]; exact HG31.out
                have HX31 := Lib.hid hx31; clear hx31 hx
                go_wp2
                go_meet
                exact ⟨by rw [HX31.out]; rfl, rfl⟩
            clear hx
            obtain ⟨rfl, hwc⟩ := hcut
            rw [hwc]; clear hwc wc
            have hst := HST.out
            clear HST
            rcases hst with hst | hst | hst | hst
            · obtain ⟨rfl, rfl⟩ := hst
              rw [show ((0 : Nat) : Int) = 0 from rfl]
              have hn := HN.out.1
              have HNX := Lib.hid hn; clear hn HN
              go_wp2_with fail
              go_loopw [6, 7] (fun s6 s7 wr => s7 = y ∧ s6 = .int .i64 6 ∧ wr = w1) (fun _ _ _ => 0)
              case atStart => exact ⟨rfl, rfl, by first | rfl | trivial⟩
              case round =>
                obtain ⟨h7, rfl, hwr⟩ := hrel
                rw [h7, hwr]; clear h7 hwr wr
                go_wp2
                go_roundw
                case rel => exact ⟨y, i + 1, 6, x, B2, acc, rfl, by omega, by go_num, rfl, rfl, .inr (.inr (.inr ⟨rfl, HNX.out⟩)), by rw [← HACC.out, HDR.out, sxs0], by omega, IG.out⟩
                case measure => simp [intOf]; omega
            · obtain ⟨rfl, hr⟩ := hst
              rw [show ((2 : Nat) : Int) = 2 from rfl]
              have hv := HN.out.2.1 (r : Int) hr
              have hr4 : r < 4 := by omega
              have HV := Lib.hid hv; clear hv hr HN
              go_wp2_with fail
              go_loopw [6, 7] (fun s6 s7 wr => ∃ (z : Value) (n : Nat) (l : List Nat), z = s7 ∧ s6 = .int .i64 n ∧ ((n = 8 ∧ l = acc) ∨ (n = 0 ∧ l = acc ++ [(r * 64 + x)])) ∧ Ig w wr z l) (fun s6 _ _ => (intOf s6).toNat)
              case atStart => exact ⟨y, 8, acc, rfl, rfl, .inl ⟨rfl, rfl⟩, IG.out⟩
              case round =>
                obtain ⟨z, n, l, rfl, rfl, hnl, hig⟩ := hrel
                clear IG
                obtain ⟨w2, rfl⟩ : ∃ w2 : World, w2 = wr := ⟨_, rfl⟩
                have IZ := Lib.hid hig; clear hig
                rcases hnl with ⟨rfl, hl⟩ | ⟨rfl, hl⟩
                · rw [hl] at IZ
                  clear hl l
                  go_wp2_with (at_builtin; refine wpList_appV rfl (.tmp 52) (.tmp 58) 22 3 rfl Tryz.underlying22 (.int .i64 0) 8 infoI rfl (by decide) w.heap.size z (acc.map num) rfl (IZ.out.new _) ⟨w2.heap.size, 0, none⟩ 1 1 [_] rfl rfl (cell_one_new _ _ _) (one_i64 _) (IZ.out.room (by omega)) (IZ.out.bs _) ?_)
                  intro z' w3 H
                  have IZ2 := Lib.hid (IZ.out.app (c := (r * 64 + x)) H.out (by first | exact val_int (by rw [and255i]; have := HV.out; omega) | exact val_int (by simp only [and255i]; have := HV.out; omega)))
                  clear H IZ
                  go_wp2
                  go_roundw
                  case rel => exact ⟨z', 0, _, rfl, rfl, .inr ⟨rfl, rfl⟩, IZ2.out⟩
                  case measure => simp [intOf]
                · go_wp2
                  go_roundw
                  case rel => exact ⟨z, i + 1, 0, 0, B2, l, rfl, by omega, by go_num, rfl, rfl, .inl ⟨rfl, rfl⟩, by rw [hl, ← HACC.out, HDR.out, sxs2, List.append_assoc]; rfl, by rw [hl, List.length_append, List.length_singleton]; omega, IZ.out⟩
                  case measure => simp [intOf]; omega
            · obtain ⟨rfl, hr⟩ := hst
              rw [show ((4 : Nat) : Int) = 4 from rfl]
              have hv := HN.out.2.2.1 (r : Int) hr
              have hr4 : r < 16 := by omega
              have HV := Lib.hid hv; clear hv hr HN
              go_wp2_with fail
              go_loopw [6, 7] (fun s6 s7 wr => ∃ (z : Value) (n : Nat) (l : List Nat), z = s7 ∧ s6 = .int .i64 n ∧ ((n = 10 ∧ l = acc) ∨ (n = 2 ∧ l = acc ++ [((r * 64 + x) / 4)])) ∧ Ig w wr z l) (fun s6 _ _ => (intOf s6).toNat)
              case atStart => exact ⟨y, 10, acc, rfl, rfl, .inl ⟨rfl, rfl⟩, IG.out⟩
              case round =>
                obtain ⟨z, n, l, rfl, rfl, hnl, hig⟩ := hrel
                clear IG
                obtain ⟨w2, rfl⟩ : ∃ w2 : World, w2 = wr := ⟨_, rfl⟩
                have IZ := Lib.hid hig; clear hig
                rcases hnl with ⟨rfl, hl⟩ | ⟨rfl, hl⟩
                · rw [hl] at IZ
                  clear hl l
                  go_wp2_with (at_builtin; refine wpList_appV rfl (.tmp 52) (.tmp 58) 22 3 rfl Tryz.underlying22 (.int .i64 0) 8 infoI rfl (by decide) w.heap.size z (acc.map num) rfl (IZ.out.new _) ⟨w2.heap.size, 0, none⟩ 1 1 [_] rfl rfl (cell_one_new _ _ _) (one_i64 _) (IZ.out.room (by omega)) (IZ.out.bs _) ?_)
                  intro z' w3 H
                  have IZ2 := Lib.hid (IZ.out.app (c := ((r * 64 + x) / 4)) H.out (by first | exact val_int (by rw [and255i]; have := HV.out; omega) | exact val_int (by simp only [and255i]; have := HV.out; omega)))
                  clear H IZ
                  go_wp2
                  go_roundw
                  case rel => exact ⟨z', 2, _, rfl, rfl, .inr ⟨rfl, rfl⟩, IZ2.out⟩
                  case measure => simp [intOf]
                · go_wp2
                  go_roundw
                  case rel => exact ⟨z, i + 1, 2, ((r * 64 + x) % 4), B2, l, rfl, by omega, by go_num, rfl, rfl, .inr (.inl ⟨rfl, by have := HV.out; omega⟩), by rw [hl, ← HACC.out, HDR.out, sxs4, List.append_assoc]; rfl, by rw [hl, List.length_append, List.length_singleton]; omega, IZ.out⟩
                  case measure => simp [intOf]; omega
            · obtain ⟨rfl, hr⟩ := hst
              rw [show ((6 : Nat) : Int) = 6 from rfl]
              have hv := HN.out.2.2.2 (r : Int) hr
              have hr4 : r < 64 := by omega
              have HV := Lib.hid hv; clear hv hr HN
              go_wp2_with fail
              go_loopw [6, 7] (fun s6 s7 wr => ∃ (z : Value) (n : Nat) (l : List Nat), z = s7 ∧ s6 = .int .i64 n ∧ ((n = 12 ∧ l = acc) ∨ (n = 4 ∧ l = acc ++ [((r * 64 + x) / 16)])) ∧ Ig w wr z l) (fun s6 _ _ => (intOf s6).toNat)
              case atStart => exact ⟨y, 12, acc, rfl, rfl, .inl ⟨rfl, rfl⟩, IG.out⟩
              case round =>
                obtain ⟨z, n, l, rfl, rfl, hnl, hig⟩ := hrel
                clear IG
                obtain ⟨w2, rfl⟩ : ∃ w2 : World, w2 = wr := ⟨_, rfl⟩
                have IZ := Lib.hid hig; clear hig
                rcases hnl with ⟨rfl, hl⟩ | ⟨rfl, hl⟩
                · rw [hl] at IZ
                  clear hl l
                  go_wp2_with (at_builtin; refine wpList_appV rfl (.tmp 52) (.tmp 58) 22 3 rfl Tryz.underlying22 (.int .i64 0) 8 infoI rfl (by decide) w.heap.size z (acc.map num) rfl (IZ.out.new _) ⟨w2.heap.size, 0, none⟩ 1 1 [_] rfl rfl (cell_one_new _ _ _) (one_i64 _) (IZ.out.room (by omega)) (IZ.out.bs _) ?_)
                  intro z' w3 H
                  have IZ2 := Lib.hid (IZ.out.app (c := ((r * 64 + x) / 16)) H.out (by first | exact val_int (by rw [and255i]; have := HV.out; omega) | exact val_int (by simp only [and255i]; have := HV.out; omega)))
                  clear H IZ
                  go_wp2
                  go_roundw
                  case rel => exact ⟨z', 4, _, rfl, rfl, .inr ⟨rfl, rfl⟩, IZ2.out⟩
                  case measure => simp [intOf]
                · go_wp2
                  go_roundw
                  case rel => exact ⟨z, i + 1, 4, ((r * 64 + x) % 16), B2, l, rfl, by omega, by go_num, rfl, rfl, .inr (.inr (.inl ⟨rfl, by have := HV.out; omega⟩)), by rw [hl, ← HACC.out, HDR.out, sxs6, List.append_assoc]; rfl, by rw [hl, List.length_append, List.length_singleton]; omega, IZ.out⟩
                  case measure => simp [intOf]; omega
          · obtain rfl : i = k + 1 := by omega
            have hfin : acc ++ sxs c r [] = 240 :: ecw X := by
              have := HACC.out
              rw [List.drop_eq_nil_of_le (by rw [XI.out.len]; exact Nat.le_refl _)] at this
              rw [this, sxs_ecw _ XI.out.lt]
            have HF := Lib.hid hfin; clear hfin
            have hst := HST.out
            clear HST
            rcases hst with hst | hst | hst | hst
            · obtain ⟨rfl, rfl⟩ := hst
              rw [show ((0 : Nat) : Int) = 0 from rfl]
              go_wp2
              go_ret2
              exact ⟨k, acc, by rw [chs_len]; exact hk, ⟨_, rfl, IG.out⟩, fun _ => ⟨by have := HF.out; rw [← HX.out] at this; simpa [sxs] using this, HA.out⟩⟩
            · obtain ⟨rfl, hr⟩ := hst
              rw [show ((2 : Nat) : Int) = 2 from rfl]
              have HR := Lib.hid hr; clear hr
              go_wp2_with (at_builtin; refine wpList_appV rfl (.tmp 65) (.tmp 71) 22 3 rfl Tryz.underlying22 (.int .i64 0) 8 infoI rfl (by decide) w.heap.size y (acc.map num) rfl (IG.out.new _) ⟨w1.heap.size, 0, none⟩ 1 1 [_] rfl rfl (cell_one_new _ _ _) (one_i64 _) (IG.out.room (by omega)) (IG.out.bs _) ?_)
              intro z' w3 H
              have IZ2 := Lib.hid (IG.out.app (c := r * 64 % 256) H.out (by first | exact val_int (by rw [and255i]; unfold wrap64; have := HR.out; omega) | exact val_int (by simp only [and255i, IntKind.wrap_i64]; have := HR.out; omega)))
              clear H IG
              go_wp2
              go_ret2
              exact ⟨k, _, by rw [chs_len]; exact hk, ⟨_, rfl, IZ2.out⟩, fun _ => ⟨by have := HF.out; rw [← HX.out] at this; simpa [sxs] using this, HA.out⟩⟩
            · obtain ⟨rfl, hr⟩ := hst
              rw [show ((4 : Nat) : Int) = 4 from rfl]
              have HR := Lib.hid hr; clear hr
              go_wp2_with (at_builtin; refine wpList_appV rfl (.tmp 65) (.tmp 71) 22 3 rfl Tryz.underlying22 (.int .i64 0) 8 infoI rfl (by decide) w.heap.size y (acc.map num) rfl (IG.out.new _) ⟨w1.heap.size, 0, none⟩ 1 1 [_] rfl rfl (cell_one_new _ _ _) (one_i64 _) (IG.out.room (by omega)) (IG.out.bs _) ?_)
              intro z' w3 H
              have IZ2 := Lib.hid (IG.out.app (c := r * 16 % 256) H.out (by first | exact val_int (by rw [and255i]; unfold wrap64; have := HR.out; omega) | exact val_int (by simp only [and255i, IntKind.wrap_i64]; have := HR.out; omega)))
              clear H IG
              go_wp2
              go_ret2
              exact ⟨k, _, by rw [chs_len]; exact hk, ⟨_, rfl, IZ2.out⟩, fun _ => ⟨by have := HF.out; rw [← HX.out] at this; simpa [sxs] using this, HA.out⟩⟩
            · obtain ⟨rfl, hr⟩ := hst
              rw [show ((6 : Nat) : Int) = 6 from rfl]
              have HR := Lib.hid hr; clear hr
              go_wp2_with (at_builtin; refine wpList_appV rfl (.tmp 65) (.tmp 71) 22 3 rfl Tryz.underlying22 (.int .i64 0) 8 infoI rfl (by decide) w.heap.size y (acc.map num) rfl (IG.out.new _) ⟨w1.heap.size, 0, none⟩ 1 1 [_] rfl rfl (cell_one_new _ _ _) (one_i64 _) (IG.out.room (by omega)) (IG.out.bs _) ?_)
              intro z' w3 H
              have IZ2 := Lib.hid (IG.out.app (c := r * 4 % 256) H.out (by first | exact val_int (by rw [and255i]; unfold wrap64; have := HR.out; omega) | exact val_int (by simp only [and255i, IntKind.wrap_i64]; have := HR.out; omega)))
              clear H IG
              go_wp2
              go_ret2
              exact ⟨k, _, by rw [chs_len]; exact hk, ⟨_, rfl, IZ2.out⟩, fun _ => ⟨by have := HF.out; rw [← HX.out] at this; simpa [sxs] using this, HA.out⟩⟩
end Go.Proofs.YtcnallabiffemaaGreatDoor
