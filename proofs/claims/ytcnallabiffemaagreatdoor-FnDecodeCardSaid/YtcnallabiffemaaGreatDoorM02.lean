import Derived.WalkKit
import Derived.WalkLawsBesides
import Derived.WalkSpells
import Derived.Outline
import Derived.Lib.Hide
import Derived.RegionTactic
import Derived.BigRegion
import Derived.Deep.QuietTactic
import Derived.BigQuiet
import Derived.Below
import Derived.Laws.CopyOwn
import Derived.Deep.OwnRows
import Derived.StillTailTactics
import Derived.Test.YtcnallabiffemaaGreatDoorProg
import Derived.Maps.AppendAt
import Derived.Test.YtcnallabiffemaaGreatDoorM01
/- Part of the proof that a Data Matrix symbol of a text, damaged at most to half of its check codewords in each block, is decoded to the text (FnDecode): texts Rs3 Rs4 Wb Wm Bu Ta Ow Fa Pa. -/
set_option linter.unusedVariables false
set_option linter.unusedSimpArgs false
namespace Zx

/-- a number as an element -/
def fi (i : Nat) : F := ⟨i % 256, Nat.mod_lt _ (by decide)⟩
theorem fi_v (i : Nat) (h : i < 256) : (fi i).v = i := Nat.mod_eq_of_lt h
theorem fi_self (a : F) : fi a.v = a := F.ext (Nat.mod_eq_of_lt a.lt)
/-- the powers of the generator -/
def al (k : Nat) : F := ⟨ex k, ex_lt k⟩
theorem al_ne (k : Nat) : al k ≠ 0 := fun h => ex_ne k (congrArg F.v h)
theorem al_mul (j k : Nat) : al j * al k = al (j + k) := F.ext (gm_ex_ex j k)
theorem al_pow (k m : Nat) : fpow (al k) m = al (k * m) := by
  induction m with
  | zero => rfl
  | succ m ih => simp only [fpow]; rw [ih, al_mul, Nat.mul_succ]
theorem al_inj {j k : Nat} (hj : j < 255) (hk : k < 255) (h : al j = al k) : j = k := ex_inj hj hk (congrArg F.v h)

/-- the value of a polynomial, by its coefficients from the highest one on -/
theorem hrn_sm (a : F) (l : List F) : hrn a l = sm l.length (fun j => hi l j * fpow a (l.length - 1 - j)) := by
  rw [hrn_ev, ev, sm_rev]
  refine sm_congr fun j hj => ?_
  rw [co_get, if_pos (by omega)]
  congr 2; omega

/-- the errors among the first k places -/
def errs (X E : Nat → F) : Nat → Er
  | 0 => []
  | k + 1 => if E k = 0 then errs X E k else (X k, E k) :: errs X E k

theorem errs_mem {X E : Nat → F} {k : Nat} {e : F × F} : e ∈ errs X E k ↔ ∃ j, j < k ∧ E j ≠ 0 ∧ e = (X j, E j) := by
  induction k with
  | zero => simp [errs]
  | succ k ih =>
    unfold errs
    split
    · rename_i h
      rw [ih]
      constructor
      · rintro ⟨j, h1, h2⟩; exact ⟨j, by omega, h2⟩
      · rintro ⟨j, h1, h2, h3⟩
        have : j ≠ k := fun hj => h2 (by rw [hj]; exact h)
        exact ⟨j, by omega, h2, h3⟩
    · rename_i h
      rw [List.mem_cons, ih]
      constructor
      · rintro (rfl | ⟨j, h1, h2⟩)
        · exact ⟨k, by omega, h, rfl⟩
        · exact ⟨j, by omega, h2⟩
      · rintro ⟨j, h1, h2, h3⟩
        by_cases hj : j = k
        · subst hj; exact .inl h3
        · exact .inr ⟨j, by omega, h2, h3⟩

theorem Sy_errs (X E : Nat → F) (k i : Nat) : Sy (errs X E k) i = sm k (fun j => E j * fpow (X j) (i + 1)) := by
  induction k with
  | zero => rfl
  | succ k ih =>
    simp only [sm]
    unfold errs
    split
    · rename_i h; rw [ih, h, zero_mul, add_zero]
    · show E k * X k * fpow (X k) i + Sy (errs X E k) i = _
      rw [ih, add_comm, mul_assoc, mul_comm (X k)]
      rfl

theorem errs_good {X E : Nat → F} {k : Nat} (hX : ∀ j, j < k → X j ≠ 0) (hinj : ∀ i j, i < k → j < k → X i = X j → i = j) : Good (errs X E k) := by
  refine ⟨?_, ?_, ?_⟩
  · induction k with
    | zero => simp [errs]
    | succ k ih =>
      have ih' := ih (fun j hj => hX j (by omega)) (fun i j h1 h2 => hinj i j (by omega) (by omega))
      unfold errs
      split
      · exact ih'
      · refine List.nodup_cons.2 ⟨fun h => ?_, ih'⟩
        obtain ⟨e, he, h1⟩ := List.mem_map.1 h
        obtain ⟨j, hj, _, rfl⟩ := errs_mem.1 he
        have := hinj j k (by omega) (by omega) h1
        omega
  · intro e he; obtain ⟨j, hj, _, rfl⟩ := errs_mem.1 he; exact hX j hj
  · intro e he; obtain ⟨j, hj, h, rfl⟩ := errs_mem.1 he; exact h

/-! a received word r of length N, a code word c -/

def eX (N : Nat) : Nat → F := fun j => al (N - 1 - j)
def eE (r c : List F) : Nat → F := fun j => hi r j + hi c j
/-- the errors of r against c -/
def er (r c : List F) : Er := errs (eX r.length) (eE r c) r.length

theorem er_good (r c : List F) (h : r.length ≤ 255) : Good (er r c) :=
  errs_good (fun _ _ => al_ne _) fun i j h1 h2 h3 => by
    have := al_inj (by omega) (by omega) h3
    omega

theorem Sy_er (r c : List F) (i : Nat) (hl : c.length = r.length) (hc : hrn (al (i + 1)) c = 0) : Sy (er r c) i = hrn (al (i + 1)) r := by
  unfold er
  rw [Sy_errs]
  have h1 : hrn (al (i + 1)) r = hrn (al (i + 1)) r + hrn (al (i + 1)) c := by rw [hc, add_zero]
  rw [h1, hrn_sm, hrn_sm, hl, ← sm_add]
  refine sm_congr fun j hj => ?_
  unfold eE eX
  rw [add_mul, al_pow, al_pow, Nat.mul_comm]

/-- the roots of a polynomial among 1 .. k - 1, inverted -/
def rts (sg : List F) (k : Nat) : List F := ((List.range' 1 (k - 1)).filter (fun i => hrn (fi i) sg = 0)).map (fun i => (fi i).inv)

theorem rts_one (sg : List F) : rts sg 1 = [] := rfl
theorem rts_succ (sg : List F) (k : Nat) (h : 1 ≤ k) : rts sg (k + 1) = if hrn (fi k) sg = 0 then rts sg k ++ [(fi k).inv] else rts sg k := by
  unfold rts
  rw [show k + 1 - 1 = (k - 1) + 1 by omega, List.range'_1_concat, List.filter_append, List.map_append, show 1 + (k - 1) = k by omega]
  by_cases hk : hrn (fi k) sg = 0
  · rw [if_pos hk]; simp [hk]
  · rw [if_neg hk]; simp [hk]

theorem rts_len_mono (sg : List F) (k m : Nat) (h : 1 ≤ k) : (rts sg k).length ≤ (rts sg (k + m)).length := by
  induction m with
  | zero => exact Nat.le_refl _
  | succ m ih =>
    rw [← Nat.add_assoc, rts_succ _ _ (by omega)]
    split
    · simp; omega
    · exact ih

theorem rts_stop (sg : List F) (k m : Nat) (h : 1 ≤ k) (hl : (rts sg (k + m)).length ≤ (rts sg k).length) : rts sg (k + m) = rts sg k := by
  induction m with
  | zero => rfl
  | succ m ih =>
    have h1 := rts_len_mono sg k m h
    have h2 := rts_succ sg (k + m) (by omega)
    rw [← Nat.add_assoc] at hl ⊢
    rw [h2] at hl ⊢
    split at hl
    · simp at hl; omega
    · rename_i hn; rw [if_neg hn]; exact ih hl

theorem inv_v_pos (a : F) (h : a ≠ 0) : 1 ≤ a.v := Nat.pos_of_ne_zero (v_ne h)

theorem inv_inj {a b : F} (ha : a ≠ 0) (hb : b ≠ 0) (h : a.inv = b.inv) : a = b := by rw [← inv_inv ha, ← inv_inv hb, h]

theorem rts_perm {l : Er} (hg : Good l) {sg : List F} (hco : co sg = Lam l) : (rts sg 256).Perm (l.map (·.1)) := by
  have hev : ∀ x, hrn x sg = prodL (l.map (·.1)) x := by
    intro x
    rw [hrn_ev, hco, ← ev_Lam]
    have h1 := Lam_bd l
    have h2 : Bd sg.length (Lam l) := by rw [← hco]; exact co_bd sg
    rcases Nat.le_total sg.length (l.length + 1) with h | h
    · exact (ev_bd h2 h x).symm
    · exact ev_bd h1 h x
  refine (List.perm_ext_iff_of_nodup ?_ hg.nodup).2 fun a => ?_
  · unfold rts
    refine List.pairwise_map.2 ?_
    refine List.Pairwise.filter _ ?_
    refine List.Pairwise.imp_of_mem ?_ (List.nodup_range' (s := 1) (n := 255) 1)
    intro x y hx hy hne h
    simp only [List.mem_range'_1] at hx hy
    have hx0 : fi x ≠ 0 := fun h0 => by have := congrArg F.v h0; rw [fi_v _ (by omega)] at this; simp [fzero_v] at this; omega
    have hy0 : fi y ≠ 0 := fun h0 => by have := congrArg F.v h0; rw [fi_v _ (by omega)] at this; simp [fzero_v] at this; omega
    have := congrArg F.v (inv_inj hx0 hy0 h)
    rw [fi_v _ (by omega), fi_v _ (by omega)] at this
    exact hne this
  · unfold rts
    rw [List.mem_map]
    constructor
    · rintro ⟨i, hi', rfl⟩
      rw [List.mem_filter, List.mem_range'_1] at hi'
      obtain ⟨h1, h2⟩ := hi'
      have h2 : hrn (fi i) sg = 0 := by simpa using h2
      rw [hev] at h2
      obtain ⟨b, hb, h3⟩ := prodL_zero h2
      have : b = (fi i).inv := inv_unique (by rw [mul_comm]; exact h3)
      rw [← this]; exact hb
    · intro ha
      obtain ⟨e, he, rfl⟩ := List.mem_map.1 ha
      have hne := hg.place e he
      have hin : (e.1.inv).v < 256 := (e.1.inv).lt
      have h1 := inv_v_pos e.1.inv inv_ne
      refine ⟨e.1.inv.v, ?_, by rw [fi_self, inv_inv hne]⟩
      rw [List.mem_filter, List.mem_range'_1]
      refine ⟨by omega, ?_⟩
      rw [fi_self, decide_eq_true_iff, hev]
      exact prodL_root ha (mul_inv hne)

/-- what the search for the places hands back -/
def locs (sg : List F) : List F := if sg.length = 2 then [hi sg 0] else rts sg 256

theorem lam_top : ∀ {l : Er}, Good l → Lam l l.length ≠ 0
  | [], _ => one_ne
  | e :: l, h => by
    show Lam l (l.length + 1) + e.1 * Lam l l.length ≠ 0
    rw [Lam_bd l _ (by omega), zero_add]
    exact mul_ne (h.place e (by simp)) (lam_top h.tail)

theorem sg_len {l : Er} (hg : Good l) {sg : List F} (hw : Wf sg) (hco : co sg = Lam l) : sg.length = l.length + 1 := by
  have h1 : sg.length ≤ l.length + 1 := hw.len_le (by omega) (by rw [hco]; exact Lam_bd l)
  have h2 : l.length < sg.length := by
    have := lam_top hg
    rw [← hco, co_get] at this
    split at this
    · assumption
    · exact absurd rfl this
  omega

theorem locs_perm {l : Er} (hg : Good l) {sg : List F} (hw : Wf sg) (hco : co sg = Lam l) : (locs sg).Perm (l.map (·.1)) := by
  have hl := sg_len hg hw hco
  unfold locs
  split
  · rename_i h
    match l, hl with
    | [e], hl =>
      have h1 : co sg 1 = hi sg 0 := by rw [co_get, if_pos (by omega), h]
      have h2 : Lam [e] 1 = e.1 := by simp [Lam, mulLin, padd, pone, psc, psh, mul_one, zero_add]
      rw [← h1, hco, h2]; exact .refl _
    | [], hl => simp at hl; omega
    | _ :: _ :: _, hl => simp at hl; omega
  · exact rts_perm hg hco

theorem locs_len {l : Er} (hg : Good l) {sg : List F} (hw : Wf sg) (hco : co sg = Lam l) : (locs sg).length = sg.length - 1 := by
  rw [(locs_perm hg hw hco).length_eq, sg_len hg hw hco]; simp

/-- the denominator of Forney's formula: the product over all places but one -/
def denom (L : List F) (i : Nat) : Nat → F
  | 0 => 1
  | j + 1 => if i = j then denom L i j else denom L i j * (hi L j * (hi L i).inv + 1)

/-- the magnitude at a place -/
def mag (om L : List F) (i : Nat) : F := hrn (hi L i).inv om * (denom L i L.length).inv * (hi L i).inv

theorem prodL_append (l m : List F) (x : F) : prodL (l ++ m) x = prodL l x * prodL m x := by
  induction l with
  | nil => simp [prodL, one_mul]
  | cons a l ih => simp only [List.cons_append, prodL, ih, mul_assoc]

theorem take_succ_hi (L : List F) (j : Nat) (h : j < L.length) : L.take (j + 1) = L.take j ++ [hi L j] := by
  rw [List.take_succ_eq_append_getElem h]; unfold hi; rw [List.getD_eq_getElem?_getD, List.getElem?_eq_getElem h]; rfl

theorem denom_prod (L : List F) (hn : L.Nodup) (i : Nat) (hi' : i < L.length) : denom L i L.length = prodL (L.erase (hi L i)) (hi L i).inv := by
  have hmem : ∀ j, j < L.length → hi L j ∈ L := fun j hj => by
    unfold hi; rw [List.getD_eq_getElem?_getD, List.getElem?_eq_getElem hj]; exact List.getElem_mem hj
  have hge : ∀ j (h : j < L.length), hi L j = L[j] := fun j hj => by
    unfold hi; rw [List.getD_eq_getElem?_getD, List.getElem?_eq_getElem hj]; rfl
  have h1 : ∀ k, k ≤ L.length → denom L i k = prodL ((L.take k).erase (hi L i)) (hi L i).inv := by
    intro k
    induction k with
    | zero => intro _; rfl
    | succ k ih =>
      intro hk
      rw [take_succ_hi L k (by omega)]
      unfold denom
      have hnot : i ≠ k → i ≥ k ∨ i < k := fun _ => by omega
      by_cases hik : i = k
      · subst hik
        rw [if_pos rfl, ih (by omega)]
        have hni : hi L i ∉ L.take i := by
          intro hm
          obtain ⟨j, hj, he⟩ := List.getElem_of_mem hm
          rw [List.getElem_take, hge i hi'] at he
          have hj' : j < i := by rw [List.length_take] at hj; omega
          have := (List.getElem_inj hn).1 he
          omega
        rw [List.erase_append_right _ hni, List.erase_of_not_mem hni]
        simp
      · rw [if_neg hik, ih (by omega)]
        by_cases hm : hi L i ∈ L.take k
        · rw [List.erase_append_left _ hm, prodL_append]
          simp only [prodL, mul_one]
          rw [add_comm (1 : F)]
        · rw [List.erase_append_right _ hm, List.erase_of_not_mem hm, prodL_append]
          have hne : hi L k ≠ hi L i := fun he => by
            rw [hge k (by omega), hge i hi'] at he
            exact hik ((List.getElem_inj hn).1 he).symm
          rw [List.erase_of_not_mem (by simpa using hne.symm)]
          simp only [prodL, mul_one]
          rw [add_comm (1 : F)]
  have := h1 L.length (Nat.le_refl _)
  rwa [List.take_length] at this

theorem ev_om_any {l : Er} {om : List F} (hco : co om = Om l) (x : F) : hrn x om = ev l.length (Om l) x := by
  rw [hrn_ev, hco]
  have h1 := Om_bd l
  have h2 : Bd om.length (Om l) := by rw [← hco]; exact co_bd om
  rcases Nat.le_total om.length l.length with h | h
  · exact (ev_bd h2 h x).symm
  · exact ev_bd h1 h x

/-- the magnitude is the error's value -/
theorem mag_ok {l : Er} (hg : Good l) {om L : List F} (hco : co om = Om l) (hL : L.Perm (l.map (·.1))) (i : Nat) (hi' : i < L.length) :
    ∃ e ∈ l, hi L i = e.1 ∧ mag om L i = e.2 ∧ denom L i L.length ≠ 0 ∧ hi L i ≠ 0 := by
  have hmem : hi L i ∈ L := by
    unfold hi; rw [List.getD_eq_getElem?_getD, List.getElem?_eq_getElem hi']; exact List.getElem_mem hi'
  obtain ⟨e, he, h1⟩ := List.mem_map.1 (hL.mem_iff.1 hmem)
  have hn : L.Nodup := hL.nodup_iff.2 hg.nodup
  have hd := denom_prod L hn i hi'
  rw [← h1] at hd
  have hpe := prodL_perm (hL.erase e.1) e.1.inv
  rw [hpe] at hd
  have hdn : denom L i L.length ≠ 0 := by rw [hd]; exact prodL_erase_ne hg he
  refine ⟨e, he, h1.symm, ?_, hdn, by rw [← h1]; exact hg.place e he⟩
  unfold mag
  rw [← h1, ev_om_any hco, ev_Om hg he, ← hd, mul_assoc (e.2 * e.1), mul_inv hdn, mul_one, mul_assoc, mul_inv (hg.place e he), mul_one]

/-- the word behind the first k corrections -/
def fixed (om L : List F) : Nat → List F → List F
  | 0, r => r
  | k + 1, r => let p := r.length - 1 - lg (hi L k).v
    (fixed om L k r).set p (hi (fixed om L k r) p + mag om L k)

theorem fixed_len (om L : List F) (k : Nat) (r : List F) : (fixed om L k r).length = r.length := by
  induction k with
  | zero => rfl
  | succ k ih => simp [fixed, ih]

theorem hi_set (l : List F) (p : Nat) (a : F) (j : Nat) (hj : j < l.length) : hi (l.set p a) j = if p = j then a else hi l j := by
  unfold hi
  rw [List.getD_eq_getElem?_getD, List.getElem?_set]
  split
  · rename_i h; subst h; simp [hj]
  · rw [List.getD_eq_getElem?_getD]

theorem hi_ext {l m : List F} (h : l.length = m.length) (hh : ∀ j, j < l.length → hi l j = hi m j) : l = m := by
  refine List.ext_getElem h fun j h1 h2 => ?_
  have := hh j h1
  unfold hi at this
  rwa [List.getD_eq_getElem?_getD, List.getD_eq_getElem?_getD, List.getElem?_eq_getElem h1, List.getElem?_eq_getElem h2] at this

/-- behind all corrections stands the code word; and each place lies in the word -/
theorem fixed_ok {r c om L : List F} (hN : r.length ≤ 255) (hl : c.length = r.length) (hco : co om = Om (er r c)) (hL : L.Perm ((er r c).map (·.1))) :
    fixed om L L.length r = c ∧ ∀ i, i < L.length → hi L i ≠ 0 ∧ lg (hi L i).v < r.length ∧ denom L i L.length ≠ 0 := by
  have hg := er_good r c hN
  have hplace : ∀ i, i < L.length → ∃ j, j < r.length ∧ hi L i = al (r.length - 1 - j) ∧ lg (hi L i).v = r.length - 1 - j ∧ mag om L i = hi r j + hi c j ∧ denom L i L.length ≠ 0 ∧ hi L i ≠ 0 := by
    intro i hi'
    obtain ⟨e, he, h1, h2, h3, h4⟩ := mag_ok hg hco hL i hi'
    obtain ⟨j, hj, hE, rfl⟩ := errs_mem.1 he
    refine ⟨j, hj, h1, ?_, h2, h3, h4⟩
    rw [h1]
    show lg (ex (r.length - 1 - j)) = _
    exact lg_ex_lt _ (by omega)
  refine ⟨?_, fun i hi' => by
    obtain ⟨j, hj, _, h2, _, h4, h5⟩ := hplace i hi'
    exact ⟨h5, by omega, h4⟩⟩
  have hn : L.Nodup := hL.nodup_iff.2 hg.nodup
  have hge : ∀ j (h : j < L.length), hi L j = L[j] := fun j hj => by
    unfold hi; rw [List.getD_eq_getElem?_getD, List.getElem?_eq_getElem hj]; rfl
  -- what stands at each place behind k corrections
  have hinv : ∀ k, k ≤ L.length → ∀ j, j < r.length →
      hi (fixed om L k r) j = if (∃ i, i < k ∧ hi L i = al (r.length - 1 - j)) then hi c j else hi r j := by
    intro k
    induction k with
    | zero => intro _ j hj; rw [if_neg (by rintro ⟨i, h, _⟩; omega)]; rfl
    | succ k ih =>
      intro hk j hj
      obtain ⟨j', hj', h1, h2, h3, _⟩ := hplace k (by omega)
      show hi ((fixed om L k r).set (r.length - 1 - lg (hi L k).v) (hi (fixed om L k r) (r.length - 1 - lg (hi L k).v) + mag om L k)) j = _
      rw [h2, show r.length - 1 - (r.length - 1 - j') = j' by omega, hi_set _ _ _ _ (by rw [fixed_len]; exact hj), h3, ih (by omega) j' hj', ih (by omega) j hj]
      by_cases hjj : j' = j
      · subst hjj
        rw [if_pos rfl]
        have hno : ¬ ∃ i, i < k ∧ hi L i = al (r.length - 1 - j') := by
          rintro ⟨i, hik, he⟩
          rw [← h1, hge i (by omega), hge k (by omega)] at he
          have := (List.getElem_inj hn).1 he
          omega
        rw [if_neg hno, if_pos ⟨k, by omega, h1⟩, ← add_assoc, add_self, zero_add]
      · rw [if_neg hjj]
        have hk' : hi L k ≠ al (r.length - 1 - j) := fun h => by
          rw [h1] at h
          have := al_inj (by omega) (by omega) h
          omega
        by_cases hex : ∃ i, i < k ∧ hi L i = al (r.length - 1 - j)
        · rw [if_pos hex]
          obtain ⟨i, hik, he⟩ := hex
          rw [if_pos ⟨i, by omega, he⟩]
        · rw [if_neg hex, if_neg]
          rintro ⟨i, hik, he⟩
          by_cases hkk : i = k
          · subst hkk; exact hk' he
          · exact hex ⟨i, by omega, he⟩
  refine hi_ext (by rw [fixed_len, hl]) fun j hj => ?_
  rw [fixed_len] at hj
  rw [hinv _ (Nat.le_refl _) j hj]
  split
  · rfl
  · rename_i hno
    by_cases hE : hi r j + hi c j = 0
    · exact add_eq_zero hE
    · exfalso
      refine hno ?_
      have hm : (eX r.length j, eE r c j) ∈ er r c := errs_mem.2 ⟨j, hj, hE, rfl⟩
      have hm2 : eX r.length j ∈ L := hL.mem_iff.2 (List.mem_map.2 ⟨_, hm, rfl⟩)
      obtain ⟨i, hi', he⟩ := List.getElem_of_mem hm2
      exact ⟨i, hi', by rw [hge i hi', he]; rfl⟩

/-- the syndromes, the highest one first -/
def synd (r : List F) (n : Nat) : List F := (List.range n).map fun i => hrn (al (n - i)) r

theorem co_synd (r : List F) (n i : Nat) (h : i < n) : co (synd r n) i = hrn (al (i + 1)) r := by
  rw [co_get, if_pos (by simpa [synd] using h)]
  unfold synd
  rw [hi_map _ _ _ (by simp; omega)]
  congr 2
  simp
  omega

/-- without errors the word is the code word -/
theorem er_nil {r c : List F} (hl : c.length = r.length) (h : er r c = []) : r = c := by
  refine hi_ext hl.symm fun j hj => ?_
  by_cases hE : hi r j + hi c j = 0
  · exact add_eq_zero hE
  · have : (eX r.length j, eE r c j) ∈ er r c := errs_mem.2 ⟨j, hj, hE, rfl⟩
    rw [h] at this; simp at this

/-- where all syndromes vanish there is no error -/
theorem no_errors {r c : List F} {n : Nat} (hN : r.length ≤ 255) (hl : c.length = r.length) (hc : ∀ i, i < n → hrn (al (i + 1)) c = 0)
    (hv : 2 * (er r c).length ≤ n) (hs : ∀ i, i < n → hrn (al (i + 1)) r = 0) : r = c := by
  refine er_nil hl ?_
  have hg := er_good r c hN
  match he : er r c with
  | [] => rfl
  | e :: l =>
    exfalso
    have hem : e ∈ er r c := by rw [he]; simp
    have h0 : Om (er r c) = pzero := by
      refine Mo.eq (n := n) ?_ ((Om_bd _).mono (by omega)) (fun _ _ => rfl)
      rw [← key]
      have : Mo n (Sy (er r c)) pzero := fun i hi => by rw [Sy_er r c i hl (hc i hi), hs i hi]; rfl
      have h2 := Mo.conv (Mo.refl n (Lam (er r c))) this
      rwa [conv_pzero] at h2
    have h1 := ev_Om_ne hg hem
    rw [h0] at h1
    exact h1 (sm_eq_zero fun i _ => zero_mul _)

end Zx
namespace Zx

/-! the product by doubling -/
theorem dbl_gm (x : Nat) (h : x < 256) : gm 2 x = dbl x := gm_ex 1 x h

theorem half_facts : ∀ b, b < 256 → b = dbl (b / 2) ^^^ (b % 2) := by decide +kernel

theorem gm_step (a b : Nat) (ha : a < 256) (hb : b < 256) : gm a b = (if b % 2 = 1 then a else 0) ^^^ gm (dbl a) (b / 2) := by
  have h2 : b / 2 < 256 := by omega
  have hd := dbl_lt (b / 2) h2
  have e : gm a (dbl (b / 2)) = gm (dbl a) (b / 2) := by
    rw [← dbl_gm _ h2, ← gm_assoc a 2 _ ha (by decide) h2, gm_comm a 2, dbl_gm a ha]
  conv => lhs; rw [half_facts b hb]
  rw [gm_xor a _ _ ha hd (by omega), e, Nat.xor_comm]
  congr 1
  rcases Nat.mod_two_eq_zero_or_one b with h | h <;> rw [h]
  · simp [gm_zero]
  · simp [gm_one a ha]

theorem dbl_spec : ∀ a, a < 256 → dbl a = if 255 < 2 * a then (2 * a) ^^^ 301 else 2 * a := by decide +kernel

/-! the generator -/
def addRoot (g : List F) (r : F) : List F := (List.range (g.length + 1)).map fun j => hi g j + (if j = 0 then 0 else hi g (j - 1) * r)

theorem addRoot_len (g : List F) (r : F) : (addRoot g r).length = g.length + 1 := by simp [addRoot]

theorem hi_out (l : List F) (i : Nat) (h : l.length ≤ i) : hi l i = 0 := hi_bd l i h

theorem co_addRoot (g : List F) (r : F) : co (addRoot g r) = padd (psh (co g)) (psc r (co g)) := by
  funext i
  show co (addRoot g r) i = psh (co g) i + r * co g i
  rw [co_get, addRoot_len]
  by_cases h : i < g.length + 1
  · rw [if_pos h]
    unfold addRoot
    rw [hi_map _ _ _ (by omega)]
    congr 1
    · cases i with
      | zero => rw [hi_out _ _ (by omega)]; rfl
      | succ i => show _ = co g i; rw [co_get, if_pos (by omega)]; congr 1; omega
    · rw [co_get]
      by_cases h2 : i < g.length
      · rw [if_neg (by omega), if_pos h2, mul_comm]; congr 2; omega
      · rw [if_pos (by omega), if_neg h2, mul_zero]
  · rw [if_neg h, co_get, if_neg (by omega), mul_zero, add_zero]
    cases i with
    | zero => omega
    | succ i => show _ = co g i; rw [co_get, if_neg (by omega)]

theorem hrn_addRoot (g : List F) (r x : F) : hrn x (addRoot g r) = (x + r) * hrn x g := by
  rw [hrn_ev, hrn_ev, addRoot_len, co_addRoot, ev_add, ev_psh, ev_psc, ev_bd (co_bd g) (Nat.le_succ _), add_mul]

/-- the product of (x + a^1) .. (x + a^n) -/
def gen : Nat → List F
  | 0 => [1]
  | n + 1 => addRoot (gen n) (al (n + 1))

theorem gen_len (n : Nat) : (gen n).length = n + 1 := by
  induction n with
  | zero => rfl
  | succ n ih => simp only [gen, addRoot_len, ih]

theorem gen_head (n : Nat) : hi (gen n) 0 = 1 := by
  induction n with
  | zero => rfl
  | succ n ih => simp only [gen]; unfold addRoot; rw [hi_map _ _ _ (by omega), ih, if_pos rfl, add_zero]

theorem gen_root (n i : Nat) (h1 : 1 ≤ i) (h2 : i ≤ n) : hrn (al i) (gen n) = 0 := by
  induction n with
  | zero => omega
  | succ n ih =>
    simp only [gen]
    rw [hrn_addRoot]
    by_cases h : i = n + 1
    · subst h; rw [add_self, zero_mul]
    · rw [ih (by omega), mul_zero]

/-! the division by the generator, as a shift register -/
def lfs (g : List F) (n : Nat) (rest : List F) (d : F) : List F :=
  (List.range n).map fun i => hi rest (i + 1) + (d + hi rest 0) * hi g (i + 1)
def lfr (g : List F) (n : Nat) (data : List F) : List F := data.foldl (lfs g n) (List.replicate n 0)

theorem lfs_len (g : List F) (n : Nat) (rest : List F) (d : F) : (lfs g n rest d).length = n := by simp [lfs]

theorem lfr_snoc (g : List F) (n : Nat) (data : List F) (d : F) : lfr g n (data ++ [d]) = lfs g n (lfr g n data) d := by simp [lfr]

theorem lfr_len (g : List F) (n : Nat) (data : List F) : (lfr g n data).length = n := by
  suffices h : ∀ rest : List F, rest.length = n → (data.foldl (lfs g n) rest).length = n from h _ (by simp)
  induction data with
  | nil => intro rest h; exact h
  | cons d data ih => intro rest _; exact ih _ (lfs_len _ _ _ _)

/-- the tail of a list, as a polynomial's value -/
theorem hrn_tail (x : F) (l : List F) (n : Nat) (h : l.length = n + 1) : hrn x l = hi l 0 * fpow x n + sm n (fun i => hi l (i + 1) * fpow x (n - 1 - i)) := by
  rw [hrn_sm, h, sm_succ']
  congr 1
  exact sm_congr fun i hi' => by congr 2; omega

theorem hrn_append (x : F) (l m : List F) : hrn x (l ++ m) = hrn x l * fpow x m.length + hrn x m := by
  suffices h : ∀ n (m : List F), m.length = n → hrn x (l ++ m) = hrn x l * fpow x m.length + hrn x m from h _ m rfl
  intro n
  induction n with
  | zero =>
    intro m hm
    rw [List.length_eq_zero_iff.1 hm]
    simp [fpow, mul_one, hrn, add_zero]
  | succ n ih =>
    intro m hm
    have hne : m ≠ [] := fun h => by rw [h] at hm; simp at hm
    rw [← List.dropLast_concat_getLast hne, ← List.append_assoc, hrn_snoc, hrn_snoc, ih _ (by simp [hm]), List.length_append, List.length_singleton]
    simp only [fpow]
    rw [mul_add, add_assoc, mul_left_comm, mul_comm x (fpow x _)]

theorem lfr_code (g : List F) (n : Nat) (data : List F) (x : F) (hg : g.length = n + 1) (h0 : hi g 0 = 1) (hr : hrn x g = 0) :
    hrn x (data ++ lfr g n data) = 0 := by
  suffices h : ∀ k (data : List F), data.length = k → hrn x (data ++ lfr g n data) = 0 from h _ data rfl
  intro k
  induction k with
  | zero =>
    intro data hd
    rw [List.length_eq_zero_iff.1 hd]
    show hrn x (List.replicate n 0) = 0
    rw [hrn_sm]
    refine sm_eq_zero fun i hi' => ?_
    have : hi (List.replicate n (0 : F)) i = 0 := by
      unfold hi; rw [List.getD_eq_getElem?_getD, List.getElem?_replicate]; split <;> rfl
    rw [this, zero_mul]
  | succ k ih =>
    intro data hd
    have hne : data ≠ [] := fun h => by rw [h] at hd; simp at hd
    have e := List.dropLast_concat_getLast hne
    have hl : data.dropLast.length = k := by simp [hd]
    revert e hl
    generalize data.dropLast = init
    generalize data.getLast hne = d
    intro e hl
    subst e
    have ih' := ih init hl
    rw [hrn_append, lfr_len] at ih'
    rw [lfr_snoc, hrn_append, lfs_len, hrn_snoc]
    generalize hR : lfr g n init = R at *
    have hRl : R.length = n := by rw [← hR]; exact lfr_len _ _ _
    -- the new rest's value
    have e1 : hrn x (lfs g n R d) = sm n (fun i => hi R (i + 1) * fpow x (n - 1 - i)) + (d + hi R 0) * sm n (fun i => hi g (i + 1) * fpow x (n - 1 - i)) := by
      rw [hrn_sm, lfs_len, ← sm_mul, ← sm_add]
      refine sm_congr fun i hi' => ?_
      unfold lfs
      rw [hi_map _ _ _ hi', add_mul, mul_assoc]
    have e2 : x * hrn x R = hi R 0 * fpow x n + sm n (fun i => hi R (i + 1) * fpow x (n - 1 - i)) := by
      have h1 := hrn_tail x (R ++ [0]) n (by simp [hRl])
      rw [hrn_snoc, add_zero] at h1
      rw [h1]
      have hget : ∀ i, hi (R ++ [0]) i = hi R i := by
        intro i
        unfold hi
        rw [List.getD_eq_getElem?_getD, List.getD_eq_getElem?_getD, List.getElem?_append]
        split
        · rfl
        · rename_i h
          rw [List.getElem?_eq_none (l := R) (by omega)]
          by_cases h2 : i - R.length = 0
          · rw [h2]; rfl
          · rw [List.getElem?_eq_none (by simp; omega)]
      rw [hget]
      congr 1
      exact sm_congr fun i _ => by rw [hget]
    have e3 : sm n (fun i => hi g (i + 1) * fpow x (n - 1 - i)) = fpow x n := by
      have h1 := hrn_tail x g n hg
      rw [hr, h0, one_mul] at h1
      exact (add_eq_zero h1.symm).symm
    rw [e1, e3]
    have e4 : sm n (fun i => hi R (i + 1) * fpow x (n - 1 - i)) = x * hrn x R + hi R 0 * fpow x n := by
      rw [e2, add_comm (hi R 0 * fpow x n), add_assoc, add_self, add_zero]
    rw [e4, add_mul, add_mul]
    have e5 : x * hrn x init * fpow x n = x * hrn x R := by
      have := add_eq_zero ih'
      rw [mul_assoc, this]
    rw [e5]
    -- all cancels
    generalize x * hrn x R = p
    generalize d * fpow x n = q
    generalize hi R 0 * fpow x n = r
    rw [add_assoc p r, add_left_comm r q, add_self, add_zero]
    rw [add_self]

/-- check codewords -/
def chk (data : List F) (n : Nat) : List F := lfr (gen n) n data

theorem chk_code (data : List F) (n i : Nat) (h1 : 1 ≤ i) (h2 : i ≤ n) : hrn (al i) (data ++ chk data n) = 0 :=
  lfr_code _ _ _ _ (gen_len n) (gen_head n) (gen_root n i h1 h2)

end Zx
namespace Go.Proofs.YtcnallabiffemaaGreatDoor
open Go.RowKit (wrap32 wrap64 intOf Hid)
open Zx

theorem wraps_i64 (n : Int) (h₀ : 0 ≤ n) (h₁ : n < 2 ^ 63) : IntKind.i64.wrap n = n := by rw [IntKind.wrap_i64]; omega

theorem xor_i64 (a b : Nat) (ha : a < 2 ^ 63) (hb : b < 2 ^ 63) : bits .xor .i64 (a : Int) (b : Int) = ((a ^^^ b : Nat) : Int) := by
  have hp : (2 : Nat) ^ 63 ≤ 2 ^ IntKind.i64.bits := by decide
  have ha' : a % 2 ^ IntKind.i64.bits = a := Nat.mod_eq_of_lt (Nat.lt_of_lt_of_le ha hp)
  have hb' : b % 2 ^ IntKind.i64.bits = b := Nat.mod_eq_of_lt (Nat.lt_of_lt_of_le hb hp)
  simp only [bits, BitVec.ofInt_natCast, BitVec.toNat_xor, BitVec.toNat_ofNat, ha', hb']
  have h1 : a ^^^ b < 2 ^ 63 := Nat.xor_lt_two_pow ha hb
  exact wraps_i64 _ (Int.natCast_nonneg _) (by exact_mod_cast h1)

theorem and_i64 (a b : Nat) (ha : a < 2 ^ 63) (hb : b < 2 ^ 63) : bits .and .i64 (a : Int) (b : Int) = ((a &&& b : Nat) : Int) :=
  (bits_nat .i64 63 (by decide) (fun n h0 h1 => wraps_i64 n h0 h1) a b ha hb).1
theorem or_i64 (a b : Nat) (ha : a < 2 ^ 63) (hb : b < 2 ^ 63) : bits .or .i64 (a : Int) (b : Int) = ((a ||| b : Nat) : Int) :=
  (bits_nat .i64 63 (by decide) (fun n h0 h1 => wraps_i64 n h0 h1) a b ha hb).2
theorem and_u8 (a b : Nat) (ha : a < 256) (hb : b < 256) : bits .and .u8 (a : Int) (b : Int) = ((a &&& b : Nat) : Int) :=
  (bits_nat .u8 8 (by decide) (fun n h0 h1 => wraps_u8 n h0 h1) a b ha hb).1
theorem or_u8 (a b : Nat) (ha : a < 256) (hb : b < 256) : bits .or .u8 (a : Int) (b : Int) = ((a ||| b : Nat) : Int) :=
  (bits_nat .u8 8 (by decide) (fun n h0 h1 => wraps_u8 n h0 h1) a b ha hb).2
/-- an int in Go, of an element of the field -/
abbrev fv (a : F) : Value := .int .i64 (a.v : Int)
theorem xor_f (a b : F) : bits .xor .i64 (a.v : Int) (b.v : Int) = ((a + b).v : Int) :=
  xor_i64 _ _ (Nat.lt_of_lt_of_le a.lt (by decide)) (Nat.lt_of_lt_of_le b.lt (by decide))
theorem val_int {k : IntKind} {a b : Int} (h : a = b) : Value.int k a = Value.int k b := by rw [h]
theorem ret_int {k : IntKind} {a b : Int} (h : a = b) : Ending.returned (.int k a) = .returned (.int k b) := by rw [h]
theorem int_bf {a b : Int} (h : a ≠ b) : (a == b) = false := by simpa using h
theorem int_bt {a b : Int} (h : a = b) : (a == b) = true := by simpa using h
theorem int_nf {a b : Int} (h : a = b) : (a != b) = false := by simpa using h
theorem int_nt {a b : Int} (h : a ≠ b) : (a != b) = true := by simpa using h
/-- an old cell in a world with a new block -/
theorem cell_al {w : World} {a : Addr} {v : Value} (hb : a.block < w.heap.size) (h : w.cell? a = some v) (o : Obj) : (w.alloc o).cell? a = some v :=
  (World.cell?_alloc_lt w o a hb).trans h
theorem cell_new2 (w : World) (O : Obj) (c : Array Value) (T : TypeId) (i : Nat) : ((w.alloc O).alloc (.cells c T)).cell? ⟨w.heap.size + 1, i, none⟩ = c[i]? := by
  have := World.cell?_alloc_new (w.alloc O) c T i; rwa [World.size_alloc] at this
end Go.Proofs.YtcnallabiffemaaGreatDoor
namespace Go.Proofs.YtcnallabiffemaaGreatDoor
open Go.RowKit (wrap32 wrap64 intOf Hid Below)
open Zx

theorem rowIs_below {w w' : World} {b : Nat} {t : TypeId} {n : Nat} {f : Nat → Value} (h : w.rowIs b t n f) {B : Nat} (hw : Below B w w') (hb : b < B) : w'.rowIs b t n f :=
  h.of_block (hw.block b hb)

theorem below_dn (B : Nat) (w : World) (n : Nat) : Below B w (w.drewN n) := ⟨rfl, rfl, rfl, Nat.le_refl _, fun _ _ => rfl⟩

theorem addr_add (b o j : Nat) : (Addr.mk b o none).add j = ⟨b, o + j, none⟩ := by
  unfold Addr.add; split
  · rename_i h; rw [h]; rfl
  · rfl

/-- a store into a row of the call's own, behind draws -/
theorem row_step {wr w : World} {B : Nat} {t : TypeId} {n : Nat} {f : Nat → Value} (hr : wr.rowIs B t n f) {B0 : Nat} (hb : Below B0 w wr) (hB : B0 ≤ B) (m k : Nat) (v : Value) {g : Nat → Value}
    (hg : ∀ i, i < n → (if i = k then v else f i) = g i) :
    ((wr.drewN m).setCell ⟨B, k, none⟩ v).rowIs B t n g ∧ Below B0 w ((wr.drewN m).setCell ⟨B, k, none⟩ v) := by
  have h1 : (wr.drewN m).rowIs B t n f := hr
  exact ⟨(h1.set k v).congr hg, (hb.trans (below_dn _ _ _)).setCell hB _⟩

theorem rowIs_made_set (w : World) (z v : Value) (n i : Nat) (t : TypeId) : (w.alloc (.cells ((madeCells #[z] n).setIfInBounds i v) t)).rowIs w.heap.size t n (fun j => if j = i then v else z) := by
  have := World.rowIs_alloc w ((madeCells #[z] n).setIfInBounds i v) t (fun j => if j = i then v else z) (fun j hj => by
    rw [Array.size_setIfInBounds, size_madeCells] at hj
    rw [Array.getElem?_setIfInBounds]
    by_cases h : i = j
    · subst h; simp [size_madeCells, hj]
    · rw [if_neg h, if_neg (fun h' => h h'.symm)]; simp [madeCells, hj, Nat.mod_one])
  rwa [Array.size_setIfInBounds, size_madeCells] at this

theorem splice_get {α : Type} (L : List α) (off : Nat) (cs : List α) (h : off + cs.length ≤ L.length) (i : Nat) :
    (splice L off cs)[i]? = if off ≤ i ∧ i < off + cs.length then cs[i - off]? else L[i]? := by
  unfold splice
  have h1 : (L.take off).length = off := by rw [List.length_take]; omega
  rw [List.getElem?_append, h1]
  by_cases h2 : i < off
  · rw [if_pos h2, if_neg (by omega), List.getElem?_take_of_lt h2]
  · rw [if_neg h2, List.getElem?_append]
    by_cases h3 : i - off < cs.length
    · rw [if_pos h3, if_pos (by omega)]
    · rw [if_neg h3, if_neg (by omega), List.getElem?_drop]; congr 1; omega

/-- copy into a row of the call's own: its content by the index -/
theorem wpList_copy_row {P : Program} {w : World} {ops : Array Oper} {rest : List Oper} {o : Oper} {a : Act} {Q : Exit → Act → World → Prop} (hgd : o.guard = none) (d s : Operand) (dT sT : TypeId)
    (ho : o.op = .call { callee := .builtin .copy, args := #[d, s], argTypes := #[dT, sT] }) (elem : TypeId) (hu : P.underlying dT = some (.slice elem)) (hsz : (P.info? elem).map (·.size) = some 1)
    (g off dLen dCap : Nat) (sp : Option Addr) (sLen sCap : Nat) (hd : a.eval d = .slice (some ⟨g, off, none⟩) dLen dCap) (hs : a.eval s = .slice sp sLen sCap)
    (t : TypeId) (n : Nat) (f : Nat → Value) (hg : w.rowIs g t n f) (k : Nat) (hk : k = Nat.min sLen dLen) (v : Nat → Value)
    (hpos : 0 < k → ∃ ad, sp = some ad ∧ ∀ j, j < k → w.cell? (ad.add j) = some (v j))
    (hfit : off + k ≤ n) (h1 : ∀ j, (v j).oneCell' = true) (B : Nat) (w0 : World) (hb : Below B w0 w) (hBg : B ≤ g)
    (h : ∀ w', Hid (w'.rowIs g t n (fun i => if off ≤ i ∧ i < off + k then v (i - off) else f i)) → Below B w0 w' → wpList P ops Q rest (a.put o.dst (goInt k)) w') :
    wpList P ops Q (o :: rest) a w := by
  obtain ⟨c, hc1, hc2, hc3⟩ := hg
  have hl : ((List.range k).map v).length = k := by simp
  refine wpList_copy_splice hgd d s dT sT ho elem hu hsz (some ⟨g, off, none⟩) sp dLen dCap sLen sCap hd hs g off c.toList t (by simpa using hc1) ((List.range k).map v) (by rw [hl]; exact hk) ?_ ?_ ?_ B w0 hb hBg ?_
  · intro h0
    rw [hl] at h0
    obtain ⟨ad, e, hj⟩ := hpos h0
    refine ⟨rfl, ad, e, fun j u hu => ?_⟩
    rw [List.getElem?_map] at hu
    by_cases hjk : j < k
    · rw [List.getElem?_range hjk] at hu
      simp at hu
      rw [← hu]; exact hj j hjk
    · rw [List.getElem?_eq_none (by simpa using hjk)] at hu; simp at hu
  · rw [hl]; simp [hc2]; exact hfit
  · intro u hu
    obtain ⟨j, _, rfl⟩ := List.mem_map.1 hu
    exact h1 j
  · intro w' hw' hb'
    rw [hl]
    refine h w' ?_ hb'
    refine Lib.hid ⟨_, hw'.out, ?_, fun i hi' => ?_⟩
    · simp [length_splice c.toList off ((List.range k).map v) (by rw [hl]; simp [hc2]; exact hfit), hc2]
    · rw [List.getElem?_toArray, splice_get _ _ _ (by rw [hl]; simp [hc2]; exact hfit), hl]
      show _ = some (if off ≤ i ∧ i < off + k then v (i - off) else f i)
      by_cases h2 : off ≤ i ∧ i < off + k
      · rw [if_pos h2, if_pos h2, List.getElem?_map, List.getElem?_range (by omega)]; rfl
      · rw [if_neg h2, if_neg h2, Array.getElem?_toList]; exact hc3 i hi'
end Go.Proofs.YtcnallabiffemaaGreatDoor
namespace Go.Proofs.YtcnallabiffemaaGreatDoor
open Go.RowKit (Hid Below)

/-- of what was there all is as it was, but the blocks in S -/
structure But (S : Nat → Prop) (w w' : World) : Prop where
  os : w'.os = w.os
  tape : w'.tape = w.tape
  output : w'.output = w.output
  size : w.heap.size ≤ w'.heap.size
  block : ∀ k, k < w.heap.size → ¬ S k → w'.heap[k]? = w.heap[k]?

namespace But
variable {S T : Nat → Prop} {w w' w'' : World}
theorem refl (S : Nat → Prop) (w : World) : But S w w := ⟨rfl, rfl, rfl, Nat.le_refl _, fun _ _ _ => rfl⟩
theorem trans (h : But S w w') (k : But S w' w'') : But S w w'' :=
  ⟨k.os.trans h.os, k.tape.trans h.tape, k.output.trans h.output, Nat.le_trans h.size k.size, fun i hi hs => (k.block i (Nat.lt_of_lt_of_le hi h.size) hs).trans (h.block i hi hs)⟩
theorem weak (h : But S w w') (hs : ∀ k, k < w.heap.size → S k → T k) : But T w w' := ⟨h.os, h.tape, h.output, h.size, fun k hk ht => h.block k hk (fun h => ht (hs k hk h))⟩
theorem ofBelow {B : Nat} (h : Below B w w') (hs : ∀ k, k < w.heap.size → ¬ S k → k < B) : But S w w' := ⟨h.os, h.tape, h.output, h.size, fun k hk hn => h.block k (hs k hk hn)⟩
theorem ofAll (h : Below w.heap.size w w') : But S w w' := ofBelow h fun _ hk _ => hk
theorem below (h : But S w w') {B : Nat} (hB : B ≤ w.heap.size) (hs : ∀ k, k < B → ¬ S k) : Below B w w' := ⟨h.os, h.tape, h.output, h.size, fun k hk => h.block k (Nat.lt_of_lt_of_le hk hB) (hs k hk)⟩
theorem all (h : But S w w') (hs : ∀ k, k < w.heap.size → ¬ S k) : Below w.heap.size w w' := h.below (Nat.le_refl _) hs
theorem thenAll (h : But S w w') (k : Below w'.heap.size w' w'') : But S w w'' := h.trans (ofAll k)
theorem thenDn (h : But S w w') (n : Nat) : But S w (w'.drewN n) := ⟨h.os, h.tape, h.output, h.size, h.block⟩
theorem thenAlloc (h : But S w w') (o : Obj) : But S w (w'.alloc o) := h.thenAll ((Below.refl _ _).alloc (Nat.le_refl _) _)
theorem thenSet (h : But S w w') {a : Addr} (ha : S a.block ∨ w.heap.size ≤ a.block) (v : Value) : But S w (w'.setCell a v) :=
  ⟨h.os, h.tape, h.output, by rw [World.size_setCell]; exact h.size, fun k hk hn => by
    rw [Below.heap_setCell _ _ _ _ (by rintro rfl; rcases ha with ha | ha; exact hn ha; omega)]; exact h.block k hk hn⟩
theorem cell (h : But S w w') {p : Addr} (hp : p.block < w.heap.size) (hn : ¬ S p.block) : w'.cell? p = w.cell? p := World.cell?_of_block (w := w) (h.block p.block hp hn)
theorem row (h : But S w w') {b : Nat} {t : TypeId} {n : Nat} {f : Nat → Value} (hr : w.rowIs b t n f) (hn : ¬ S b) : w'.rowIs b t n f := hr.of_block (h.block b hr.lt hn)
/-- a smaller beginning -/
theorem from_ {w0 : World} (h : But S w w') (h0 : Below w0.heap.size w0 w) (hs : ∀ k, k < w0.heap.size → ¬ S k) : Below w0.heap.size w0 w' :=
  h0.trans (h.below h0.size hs)
end But
end Go.Proofs.YtcnallabiffemaaGreatDoor
namespace Go.Proofs.YtcnallabiffemaaGreatDoor
open Go.RowKit (wrap32 wrap64 intOf Hid)
open Zx

theorem bit0 (y : Nat) (hy : y < 256) : (bits BinOp.and IntKind.i64 (↑y) 1 == 1) = decide (y % 2 = 1) := by
  have := and_i64 y 1 (Nat.lt_of_lt_of_le hy (by decide)) (by decide)
  rw [show ((1 : Nat) : Int) = 1 from rfl] at this
  rw [this, Nat.and_one_is_mod, Bool.eq_iff_iff]
  simp; omega

theorem t_step {g x y z : Nat} (hx : x < 256) (hy : y < 256) (h : g = z ^^^ gm x y) : g = (if y % 2 = 1 then z ^^^ x else z) ^^^ gm (dbl x) (y / 2) := by
  rw [h, gm_step x y hx hy]
  split
  · rw [Nat.xor_assoc]
  · rw [Nat.zero_xor]
theorem dbl_hi {x : Nat} (hx : x < 256) (h : (255 : Int) < (x : Int) * 2) : bits .xor .i64 ((x : Int) * 2) 301 = ((dbl x : Nat) : Int) := by
  rw [dbl_spec x hx, if_pos (by omega)]
  have := xor_i64 (2 * x) 301 (by omega) (by omega)
  rw [← this]; congr 1; omega
theorem dbl_lo {x : Nat} (hx : x < 256) (h : (x : Int) * 2 ≤ 255) : (x : Int) * 2 = ((dbl x : Nat) : Int) := by
  rw [dbl_spec x hx, if_neg (by omega)]; omega

theorem times_any (a b : Nat) (ha : a < 256) (hb : b < 256) (w : World) :
    Calls Tryz.prog 49 #[.int .i64 a, .int .i64 b] w fun e w' => e = .returned (.int .i64 (gm a b)) ∧ w = w' := by
  go_enter Tryz.func49, Tryz.ntmps49
  go_wp2
  go_loop [0, 1, 5] (fun u v o => ∃ x y z : Nat, x < 256 ∧ y < 256 ∧ z < 256 ∧ gm a b = z ^^^ gm x y ∧ u = .int .i64 x ∧ v = .int .i64 y ∧ o = .int .i64 z) (fun _ v _ => (intOf v).toNat)
  case atStart => exact ⟨a, b, 0, ha, hb, by decide, by simp, rfl, rfl, rfl⟩
  case round =>
    obtain ⟨x, y, z, hx, hy, hz, H, rfl, rfl, rfl⟩ := hrel
    have HH := Lib.hid H; clear H
    have B := Lib.hid (bit0 y hy)
    go_wp2
    case roundEnd =>
      have h1 : (bits BinOp.and IntKind.i64 (↑y) 1 == 1) = true := by assumption
      have h2 : (255 : Int) < (x : Int) * 2 := by assumption
      rw [B.out, decide_eq_true_iff] at h1
      have := t_step hx hy HH.out; rw [if_pos h1] at this
      exact ⟨⟨dbl x, y / 2, z ^^^ x, dbl_lt x hx, by omega, xor_lt hz hx, this, val_int (dbl_hi hx h2), rfl, val_int (xor_i64 _ _ (by omega) (by omega))⟩, by simp [intOf]; omega⟩
    case roundEnd =>
      have h1 : (bits BinOp.and IntKind.i64 (↑y) 1 == 1) = true := by assumption
      have h2 : (x : Int) * 2 ≤ 255 := by assumption
      rw [B.out, decide_eq_true_iff] at h1
      have := t_step hx hy HH.out; rw [if_pos h1] at this
      exact ⟨⟨dbl x, y / 2, z ^^^ x, dbl_lt x hx, by omega, xor_lt hz hx, this, val_int (dbl_lo hx h2), rfl, val_int (xor_i64 _ _ (by omega) (by omega))⟩, by simp [intOf]; omega⟩
    case roundEnd =>
      have h1 : (bits BinOp.and IntKind.i64 (↑y) 1 == 1) = false := by assumption
      have h2 : (255 : Int) < (x : Int) * 2 := by assumption
      rw [B.out, decide_eq_false_iff_not] at h1
      have := t_step hx hy HH.out; rw [if_neg h1] at this
      exact ⟨⟨dbl x, y / 2, z, dbl_lt x hx, by omega, hz, this, val_int (dbl_hi hx h2), rfl, rfl⟩, by simp [intOf]; omega⟩
    case roundEnd =>
      have h1 : (bits BinOp.and IntKind.i64 (↑y) 1 == 1) = false := by assumption
      have h2 : (x : Int) * 2 ≤ 255 := by assumption
      rw [B.out, decide_eq_false_iff_not] at h1
      have := t_step hx hy HH.out; rw [if_neg h1] at this
      exact ⟨⟨dbl x, y / 2, z, dbl_lt x hx, by omega, hz, this, val_int (dbl_lo hx h2), rfl, rfl⟩, by simp [intOf]; omega⟩
    · go_ret
      have h0 : y = 0 := by omega
      subst h0
      exact ⟨ret_int (by rw [HH.out, gm_zero, Nat.xor_zero]), rfl⟩
end Go.Proofs.YtcnallabiffemaaGreatDoor
namespace Go.Proofs.YtcnallabiffemaaGreatDoor
open Go.RowKit (Hid Below)
open Zx

theorem infoB : (Tryz.prog.info? 5).map (fun i => (i.zero, i.size, i.bytes)) = some (some (.int .u8 0), 1, 1) := by kernel_rfl
theorem infoI : (Tryz.prog.info? 3).map (fun i => (i.zero, i.size, i.bytes)) = some (some (.int .i64 0), 1, 8) := by kernel_rfl

/-- a slice of the call's own: what it holds -/
def OwnV (w : World) (e : TypeId) (base : Nat) (v : Value) (xs : List Value) : Prop := w.ownsRow base e 1 v xs.length xs

theorem OwnV.nil (w : World) (e : TypeId) (base : Nat) : OwnV w e base (.slice none 0 0) [] := ⟨rfl, .inl ⟨rfl, rfl⟩⟩
theorem OwnV.lt {w : World} {e : TypeId} {base : Nat} {v : Value} {xs : List Value} (h : OwnV w e base v xs) {k : Nat} (hk : v.ownBlock = some k) : base ≤ k ∧ k < w.heap.size := World.ownsRow.lt h k hk
theorem OwnV.shape {w : World} {e : TypeId} {base : Nat} {v : Value} {xs : List Value} (h : OwnV w e base v xs) :
    (v = .slice none 0 0 ∧ xs = []) ∨ ∃ g cap, v = .slice (some ⟨g, 0, none⟩) xs.length cap ∧ base ≤ g ∧ g < w.heap.size ∧ xs.length ≤ cap ∧ (∀ (j : Nat) (u : Value), xs[j]? = some u → w.cell? ⟨g, j, none⟩ = some u) ∧ (∀ j, w.frozen? ⟨g, j, none⟩ = false) := by
  rcases h.2 with ⟨h1, h2⟩ | ⟨g, cap, cur, h1, h2, h3, h4, h5, h6, h7⟩
  · exact .inl ⟨h1, List.eq_nil_of_length_eq_zero h2⟩
  · refine .inr ⟨g, cap, h1, h2, (Array.getElem?_eq_some_iff.1 h3).1, h4, fun j u hu => ?_, fun j => ?_⟩
    · have := World.ownsRow.cells h (g := g) (by rw [h1]; rfl) j u hu
      rwa [addr_add, Nat.zero_add] at this
    · simp [World.frozen?, h3]
theorem OwnV.keep {w w' : World} {e : TypeId} {base : Nat} {v : Value} {xs : List Value} (h : OwnV w e base v xs) {S : Nat → Prop} (hb : But S w w') (hn : ∀ k, v.ownBlock = some k → ¬ S k) : OwnV w' e base v xs := by
  refine ⟨h.1, ?_⟩
  rcases h.2 with h1 | ⟨g, cap, cur, rfl, h2, h3, rest⟩
  · exact .inl h1
  · exact .inr ⟨g, cap, cur, rfl, h2, by rw [hb.block g (Array.getElem?_eq_some_iff.1 h3).1 (hn g rfl)]; exact h3, rest⟩
theorem OwnV.below {w w' : World} {e : TypeId} {base : Nat} {v : Value} {xs : List Value} (h : OwnV w e base v xs) (hb : Below w.heap.size w w') : OwnV w' e base v xs :=
  h.keep (But.ofAll (S := fun _ => False) hb) fun _ _ => id
theorem OwnV.base {w : World} {e : TypeId} {base b : Nat} {v : Value} {xs : List Value} (h : OwnV w e base v xs) (hb : b ≤ base) : OwnV w e b v xs := by
  refine ⟨h.1, ?_⟩
  rcases h.2 with h1 | ⟨g, cap, cur, h1, h2, rest⟩
  · exact .inl h1
  · exact .inr ⟨g, cap, cur, h1, Nat.le_trans hb h2, rest⟩

/-- a row is a slice of the call's own -/
theorem OwnV.ofRow {w : World} {g : Nat} {e : TypeId} {n : Nat} {f : Nat → Value} (h : w.rowIs g e n f) (hn : n ≤ 1000000) (base : Nat) (hb : base ≤ g) : OwnV w e base (.slice (some ⟨g, 0, none⟩) n n) ((List.range n).map f) := by
  obtain ⟨c, h1, h2, h3⟩ := h
  refine ⟨by simp, .inr ⟨g, n, c, by simp, hb, h1, by simp, by unfold maxLen; omega, by rw [h2, Nat.mul_one], ?_⟩⟩
  refine List.ext_getElem? fun i => ?_
  rw [List.getElem?_take]
  by_cases hi : i < n
  · rw [if_pos (by simpa using hi), Array.getElem?_toList, h3 i hi]; simp [hi]
  · rw [if_neg (by simpa using hi), List.getElem?_eq_none (by simpa using Nat.le_of_not_lt hi)]

/-- what an append leaves -/
structure AppTo (w w' : World) (e : TypeId) (base : Nat) (v v' : Value) (xs : List Value) : Prop where
  own : OwnV w' e base v' xs
  but : But (fun b => v.ownBlock = some b) w w'
  at_ : v'.ownBlock = v.ownBlock ∨ v'.ownBlock = some w.heap.size

theorem wpList_appV {ops : Array Oper} {rest : List Oper} {o : Oper} {a : Act} {Q : Exit → Act → World → Prop} {w : World} (hgd : o.guard = none) (s x : Operand) (t e : TypeId)
    (ho : o.op = .call { callee := .builtin .append, args := #[s, x], argTypes := #[t, t] }) (ht : Tryz.prog.underlying t = some (.slice e)) (z : Value) (bytes : Nat)
    (hinf : (Tryz.prog.info? e).map (fun i => (i.zero, i.size, i.bytes)) = some (some z, 1, bytes)) (hzs : z.cells.size = 1) (hb8 : bytes ≤ 100)
    (base : Nat) (v : Value) (xs : List Value) (hs : a.eval s = v) (hown : OwnV w e base v xs) (ad : Addr) (m c : Nat) (news : List Value) (hx : a.eval x = .slice (some ad) m c) (hl : news.length = m)
    (hnews : ∀ j u, news[j]? = some u → w.cell? (ad.add j) = some u) (h1 : ∀ u ∈ news, u.oneCell' = true) (hlen : xs.length + m ≤ 1000000) (hbase : base ≤ w.heap.size)
    (h : ∀ v' w', Hid (AppTo w w' e base v v' (xs ++ news)) → wpList Tryz.prog ops Q rest (a.put o.dst v') w') : wpList Tryz.prog ops Q (o :: rest) a w := by
  obtain ⟨i, hi, hz⟩ := Option.map_eq_some_iff.1 hinf
  simp only [Prod.mk.injEq] at hz
  have hbm : (xs.length + m) * bytes ≤ 1000000 * 100 := Nat.mul_le_mul hlen hb8
  refine wpList_append_own_at w hgd s x t ho base e i z 1 bytes ht hi hz.1 hz.2.1 hz.2.2 hzs (by decide) v xs.length xs hs hown ad m c news hx (by rw [hl, Nat.mul_one]) hnews h1 (by unfold maxLen; omega) (by omega) hbase ?_
  intro v' w' h2 h3 _ h5
  refine h v' w' (Lib.hid ⟨by unfold OwnV; rw [List.length_append, hl]; exact h2, ⟨h3.os, h3.tape, h3.output, h3.size, fun k hk hn => h3.block k hk (fun e => hn e.symm)⟩, h5⟩)

abbrev byt (c : Nat) : Value := .int .u8 (c : Int)
abbrev num (c : Nat) : Value := .int .i64 (c : Int)
theorem byt_one (l : List Nat) : ∀ u ∈ l.map byt, u.oneCell' = true := by
  intro u hu; obtain ⟨c, _, rfl⟩ := List.mem_map.1 hu; rfl
theorem num_one (l : List Nat) : ∀ u ∈ l.map num, u.oneCell' = true := by
  intro u hu; obtain ⟨c, _, rfl⟩ := List.mem_map.1 hu; rfl

/-- a slice of bytes of the call's own -/
abbrev OwnB (w : World) (base : Nat) (v : Value) (l : List Nat) : Prop := OwnV w 5 base v (l.map byt)
/-- a slice of numbers of the call's own -/
abbrev OwnI (w : World) (base : Nat) (v : Value) (l : List Nat) : Prop := OwnV w 3 base v (l.map num)
end Go.Proofs.YtcnallabiffemaaGreatDoor
namespace Go.Proofs.YtcnallabiffemaaGreatDoor
open Go.RowKit (wrap32 wrap64 intOf Hid)
open Zx

/-- the table of logarithms, as the code lays it -/
def lgt (x : Nat) : Nat := if x = 0 then 0 else lg x
theorem lgt_lt (a : F) : lgt a.v < 255 := by
  unfold lgt; split
  · decide
  · exact lg_lt _ a.lt ‹_›

/-- an address -/
abbrev ad (b o : Nat) : Addr := ⟨b, o, none⟩
abbrev pt (b : Nat) : Value := .pointer (some ⟨b, 0, none⟩)

/-- the field's own cells and tables -/
structure FldT (w : World) (fb eb lb : Nat) : Prop where
  c0 : w.cell? ⟨fb, 0, none⟩ = some (.slice (some ⟨eb, 0, none⟩) 256 256)
  c1 : w.cell? ⟨fb, 1, none⟩ = some (.slice (some ⟨lb, 0, none⟩) 256 256)
  c4 : w.cell? ⟨fb, 4, none⟩ = some (.int .i64 256)
  c6 : w.cell? ⟨fb, 6, none⟩ = some (.int .i64 1)
  te : ∀ i, i < 256 → w.cell? ⟨eb, i, none⟩ = some (.int .i64 (ex i))
  tl : ∀ i, i < 256 → w.cell? ⟨lb, i, none⟩ = some (.int .i64 (lgt i))

set_option maxRecDepth 100000 in
theorem mul_nz (a b : F) (ha : a ≠ 0) (hb : b ≠ 0) (fb eb lb : Nat) (w : World) (h : FldT w fb eb lb) :
    Calls Tryz.prog 209 #[pt fb, fv a, fv b] w fun e w' => e = .returned (fv (a * b)) ∧ ∃ n, w' = w.drewN n := by
  have h0 := h.c0
  have h1 := h.c1
  have h4 := h.c4
  have ha0 : ((a.v : Int) == 0) = false := by have := v_ne ha; simp; omega
  have hb0 : ((b.v : Int) == 0) = false := by have := v_ne hb; simp; omega
  have la := h.tl a.v a.lt
  have lb' := h.tl b.v b.lt
  have ba := lgt_lt a
  have bb := lgt_lt b
  have hal := a.lt
  have hbl := b.lt
  have he := h.te ((lgt a.v + lgt b.v) % 255) (by omega)
  clear h
  go_enter Tryz.func209, Tryz.ntmps209
  go_wp2_with fail
  go_quiet (fail)
  go_wp2
  go_ret
  refine ⟨ret_int ?_, nq, rfl⟩
  have e1 : lgt a.v = lg a.v := if_neg (v_ne ha)
  have e2 : lgt b.v = lg b.v := if_neg (v_ne hb)
  rw [e1, e2, ex_mod, fmul_v]
  unfold gm
  rw [if_neg (by simp [v_ne ha, v_ne hb])]

theorem mul_z (a b : F) (hz : a = 0 ∨ b = 0) (fb : Nat) (w : World) :
    Calls Tryz.prog 209 #[pt fb, fv a, fv b] w fun e w' => e = .returned (fv (a * b)) ∧ ∃ n, w' = w.drewN n := by
  have e : a * b = 0 := by rcases hz with rfl | rfl; exact zero_mul _; exact mul_zero _
  rw [e]
  by_cases ha : a = 0
  · subst ha
    go_enter Tryz.func209, Tryz.ntmps209
    go_wp2
    go_ret
    exact ⟨rfl, 0, rfl⟩
  · obtain rfl : b = 0 := by rcases hz with h | h; exact absurd h ha; exact h
    have ha0 : ((a.v : Int) == 0) = false := by have := v_ne ha; simp; omega
    go_enter Tryz.func209, Tryz.ntmps209
    go_wp2
    go_ret
    exact ⟨rfl, 0, rfl⟩

theorem mul_any (a b : F) (fb eb lb : Nat) (w : World) (h : FldT w fb eb lb) :
    Calls Tryz.prog 209 #[pt fb, fv a, fv b] w fun e w' => e = .returned (fv (a * b)) ∧ ∃ n, w' = w.drewN n := by
  by_cases ha : a = 0
  · exact mul_z a b (.inl ha) fb w
  · by_cases hb : b = 0
    · exact mul_z a b (.inr hb) fb w
    · exact mul_nz a b ha hb fb eb lb w h

theorem inv_any (a : F) (ha : a ≠ 0) (fb eb lb : Nat) (w : World) (h : FldT w fb eb lb) :
    Calls Tryz.prog 214 #[pt fb, fv a] w fun e w' => e = .returned (.tuple #[fv a.inv, .nilIface]) ∧ ∃ n, w' = w.drewN n := by
  have h0 := h.c0
  have h1 := h.c1
  have h4 := h.c4
  have ha0 : ((a.v : Int) == 0) = false := by have := v_ne ha; simp; omega
  have la := h.tl a.v a.lt
  have ba := lgt_lt a
  have hal := a.lt
  have he := h.te (255 - lgt a.v) (by omega)
  have e3 : ((256 : Int) - (lgt a.v : Int) - 1).toNat = 255 - lgt a.v := by omega
  have g1 : (0 : Int) ≤ 256 - (lgt a.v : Int) - 1 := by omega
  have g2 : (256 : Int) - (lgt a.v : Int) - 1 < 256 := by omega
  clear h
  go_enter Tryz.func214, Tryz.ntmps214
  go_wp2_with fail
  go_quiet (fail)
  go_wp2
  go_ret2
  refine ⟨?_, _, rfl⟩
  have e1 : lgt a.v = lg a.v := if_neg (v_ne ha)
  show Ending.returned (.tuple #[.int .i64 _, .nilIface]) = _
  rw [e1]; rfl

end Go.Proofs.YtcnallabiffemaaGreatDoor
namespace Go.Proofs.YtcnallabiffemaaGreatDoor
open Go.RowKit (wrap32 wrap64 intOf Hid Below)
open Zx

/-- cells of ints that are elements of the field -/
def Cs (w : World) (b o : Nat) (l : List F) : Prop := ∀ i, i < l.length → w.cell? ⟨b, o + i, none⟩ = some (fv (hi l i))

/-- a polynomial behind a pointer -/
def Poly (w : World) (fb p : Nat) (l : List F) : Prop :=
  ∃ b o c, w.cell? ⟨p, 0, none⟩ = some (pt fb) ∧ w.cell? ⟨p, 1, none⟩ = some (.slice (some ⟨b, o, none⟩) l.length c) ∧ l.length ≤ c ∧
    0 < l.length ∧ l.length ≤ 1048576 ∧ p < w.heap.size ∧ b < w.heap.size ∧ Cs w b o l

theorem Cs.below {w w' : World} {b o : Nat} {l : List F} (h : Cs w b o l) (hb : b < w.heap.size) (hw : Below w.heap.size w w') : Cs w' b o l :=
  fun i hi' => (hw.cell (p := ⟨b, o + i, none⟩) hb).trans (h i hi')

theorem Poly.below {w w' : World} {fb p : Nat} {l : List F} (h : Poly w fb p l) (hw : Below w.heap.size w w') : Poly w' fb p l := by
  obtain ⟨b, o, c, h1, h2, h3, h4, h4', h5, h6, h7⟩ := h
  exact ⟨b, o, c, (hw.cell (p := ⟨p, 0, none⟩) h5).trans h1, (hw.cell (p := ⟨p, 1, none⟩) h5).trans h2, h3, h4, h4', Nat.lt_of_lt_of_le h5 hw.size, Nat.lt_of_lt_of_le h6 hw.size, h7.below h6 hw⟩

theorem hi_drop (l : List F) (k i : Nat) : hi (l.drop k) i = hi l (k + i) := by
  unfold hi; rw [List.getD_eq_getElem?_getD, List.getD_eq_getElem?_getD, List.getElem?_drop]

theorem dropWhile_zeros (l : List F) : ∀ k, (∀ i, i < k → hi l i = 0) → k ≤ l.length → l.dropWhile (· = 0) = (l.drop k).dropWhile (· = 0)
  | 0, _, _ => rfl
  | k + 1, h, hk => by
    match l, hk with
    | a :: l, hk =>
      have h0 : a = 0 := h 0 (by omega)
      rw [List.dropWhile_cons_of_pos (by simpa using h0), List.drop_succ_cons]
      exact dropWhile_zeros l k (fun i hi' => h (i + 1) (by omega)) (by simpa using hk)

theorem nrm_zeros (l : List F) (h : ∀ i, i < l.length → hi l i = 0) : nrm l = [0] := by
  unfold nrm
  rw [dropWhile_zeros l l.length h (Nat.le_refl _), List.drop_length]; rfl

theorem nrm_drop (l : List F) (k : Nat) (h : ∀ i, i < k → hi l i = 0) (hk : k < l.length) (hne : hi l k ≠ 0) : nrm l = l.drop k := by
  unfold nrm
  rw [dropWhile_zeros l k h (by omega)]
  match hd : l.drop k with
  | [] => have := congrArg List.length hd; simp at this; omega
  | a :: m =>
    have ha : a = hi l k := by have := hi_drop l k 0; rw [hd] at this; simpa [hi] using this
    rw [List.dropWhile_cons_of_neg (by rw [ha]; simpa using hne)]

theorem nrm_one (l : List F) (h : l.length = 1) : nrm l = l := by
  match l, h with
  | [a], _ =>
    by_cases ha : a = 0
    · subst ha; rfl
    · have := nrm_drop [a] 0 (fun i hi' => by omega) (by simp) (by simpa [hi] using ha); simpa using this

/-- a new polynomial -/
def MkPoly (w : World) (fb : Nat) (l : List F) (e : Ending) (w' : World) : Prop :=
  ∃ p, e = .returned (.tuple #[pt p, .nilIface]) ∧ Poly w' fb p l ∧ Below w.heap.size w w'

theorem beq_f0 (a : F) (h : a ≠ 0) : ((a.v : Int) == 0) = false := by have := v_ne h; simp; omega
theorem beq_f1 (a : F) (h : a = 0) : ((a.v : Int) == 0) = true := by subst h; rfl

theorem newPoly_a (w : World) (fb b o c : Nat) (l : List F) (h0 : 0 < l.length) (hm : l.length ≤ 1048576) (hc : l.length ≤ c) (hb : b < w.heap.size)
    (hcs : Cs w b o l) (hn : l.length = 1 ∨ hi l 0 ≠ 0) :
    Calls Tryz.prog 156 #[pt fb, .slice (some ⟨b, o, none⟩) l.length c] w (MkPoly w fb (nrm l)) := by
  have e0 : ((l.length : Int) == 0) = false := int_bf (by omega)
  have en : nrm l = l := by
    rcases hn with h | h
    · exact nrm_one l h
    · have := nrm_drop l 0 (fun i hi' => by omega) h0 h; simpa using this
  rw [en]
  have c0 : w.cell? ⟨b, o, none⟩ = some (fv (hi l 0)) := hcs 0 h0
  have HC := Lib.hid hcs; clear hcs
  have HN := Lib.hid hn
  have HE := Lib.hid en; clear en
  by_cases h1 : 1 < l.length
  · have ez := beq_f0 (hi l 0) (hn.resolve_left (by omega))
    clear hn
    go_enter Tryz.func156, Tryz.ntmps156
    go_wp2
    go_ret2
    exact ⟨w.heap.size, rfl, ⟨b, o, c, by simp, by simp, hc, h0, hm, by simp, by simp; omega, HC.out.below hb ((Below.refl _ _).alloc (Nat.le_refl _) _)⟩, (Below.refl _ _).alloc (Nat.le_refl _) _⟩
  · go_enter Tryz.func156, Tryz.ntmps156
    go_wp2
    go_ret2
    exact ⟨w.heap.size, rfl, ⟨b, o, c, by simp, by simp, hc, h0, hm, by simp, by simp; omega, HC.out.below hb ((Below.refl _ _).alloc (Nat.le_refl _) _)⟩, (Below.refl _ _).alloc (Nat.le_refl _) _⟩

theorem newPoly_b (w : World) (fb b o c : Nat) (l : List F) (h1 : 1 < l.length) (hm : l.length ≤ 1048576) (hc : l.length ≤ c) (hb : b < w.heap.size)
    (hcs : Cs w b o l) (hz : hi l 0 = 0) :
    Calls Tryz.prog 156 #[pt fb, .slice (some ⟨b, o, none⟩) l.length c] w (MkPoly w fb (nrm l)) := by
  have e0 : ((l.length : Int) == 0) = false := int_bf (by omega)
  have c0 : w.cell? ⟨b, o, none⟩ = some (fv (hi l 0)) := hcs 0 (by omega)
  rw [hz] at c0
  have HC := Lib.hid hcs; clear hcs
  have HZ := Lib.hid hz; clear hz
  go_enter Tryz.func156, Tryz.ntmps156
  go_wp2
  go_loop [8] (fun i => ∃ k : Nat, 1 ≤ k ∧ k ≤ l.length ∧ (∀ j, j < k → hi l j = 0) ∧ i = .int .i64 k) (fun i => l.length - (intOf i).toNat)
  case atStart => exact ⟨1, by omega, by omega, fun j hj => by rw [show j = 0 by omega]; exact HZ.out, rfl⟩
  case round =>
    obtain ⟨k, hk1, hk, hzs, rfl⟩ := hrel
    have HS := Lib.hid hzs; clear hzs
    by_cases hlt : k < l.length
    · have ck := HC.out k hlt
      by_cases hne : hi l k = 0
      · have ez := beq_f1 _ hne
        go_wp2
        go_round
        case rel => exact ⟨k + 1, by omega, by omega, fun j hj => by
          by_cases h : j = k
          · rw [h]; exact hne
          · exact HS.out j (by omega), by go_num⟩
        case measure => simp [intOf]; omega
      · have ez := beq_f0 _ hne
        have HN := Lib.hid (nrm_drop l k HS.out hlt hne)
        clear hne
        have ek : ((k : Int) == (l.length : Int)) = false := int_bf (by omega)
        go_wp2
        go_ret2
        rw [HN.out]
        refine ⟨w.heap.size, rfl, ⟨b, o + k, c - k, by simp, by simp, by simp; omega, by simp; omega, by simp; omega, by simp, by simp; omega, ?_⟩, (Below.refl _ _).alloc (Nat.le_refl _) _⟩
        intro i hi'
        rw [List.length_drop] at hi'
        rw [hi_drop, Nat.add_assoc]
        exact HC.out.below hb ((Below.refl _ _).alloc (Nat.le_refl _) _) (k + i) (by omega)
    · obtain rfl : k = l.length := by omega
      have HN := Lib.hid (nrm_zeros l HS.out)
      go_wp2
      go_ret2
      rw [HN.out]
      refine ⟨w.heap.size, rfl, ⟨w.heap.size + 1, 0, 1, by simp, by simp, by simp, by simp, by simp, by simp; omega, by simp, ?_⟩, ?_⟩
      · intro i hi'
        obtain rfl : i = 0 := by simpa using hi'
        exact cell_new2 w _ _ _ 0
      · exact ((Below.refl _ _).alloc (Nat.le_refl _) _).alloc (by simp) _

theorem newPoly_any (w : World) (fb b o c : Nat) (l : List F) (h0 : 0 < l.length) (hm : l.length ≤ 1048576) (hc : l.length ≤ c) (hb : b < w.heap.size) (hcs : Cs w b o l) :
    Calls Tryz.prog 156 #[pt fb, .slice (some ⟨b, o, none⟩) l.length c] w (MkPoly w fb (nrm l)) := by
  by_cases h : l.length = 1 ∨ hi l 0 ≠ 0
  · exact newPoly_a w fb b o c l h0 hm hc hb hcs h
  · exact newPoly_b w fb b o c l (by omega) hm hc hb hcs (Classical.byContradiction fun hn => h (.inr hn))

theorem newPoly_of (w : World) (fb b o n c : Nat) (l : List F) (hn : l.length = n) (h0 : 0 < n) (hm : n ≤ 1048576) (hc : n ≤ c) (hb : b < w.heap.size) (hcs : Cs w b o l) :
    Calls Tryz.prog 156 #[pt fb, .slice (some ⟨b, o, none⟩) n c] w (MkPoly w fb (nrm l)) := by
  subst hn; exact newPoly_any w fb b o c l h0 hm hc hb hcs
theorem Cs.of_row {w : World} {b n : Nat} {t : TypeId} {f : Nat → Value} {l : List F} (h : w.rowIs b t n f) (hn : l.length ≤ n) (hf : ∀ i, i < l.length → f i = fv (hi l i)) : Cs w b 0 l :=
  fun i hi' => by rw [Nat.zero_add, h.cell (by omega), hf i hi']
end Go.Proofs.YtcnallabiffemaaGreatDoor
