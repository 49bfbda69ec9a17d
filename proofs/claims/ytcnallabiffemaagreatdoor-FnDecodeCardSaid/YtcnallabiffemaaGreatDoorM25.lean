import Derived.Test.YtcnallabiffemaaGreatDoorM06
/- Part of the proof that a Data Matrix symbol of a text, damaged at most to half of its check codewords in each block, is decoded to the text (FnDecode): texts S5. -/
set_option linter.unusedVariables false
set_option linter.unusedSimpArgs false
namespace Go.Proofs.YtcnallabiffemaaGreatDoor
open Go.RowKit (wrap32 wrap64 intOf Hid Below)
open Zx

/-- where a run of triples stands -/
def TriAt (m : Nat) (d : Nat → Nat) (n i : Nat) (out : List Nat) (k j sh : Nat) (acc : List Nat) : Prop := ∃ out' k', i ≤ j ∧ j ≤ n ∧ sh ≤ 3 ∧ dTri m sh (ds d n j) = some (out', k') ∧ out = acc ++ out' ∧ k = (j - i) + k'
/-- where the values of a triple stand -/
def ValAt (m sh' : Nat) (o : List Nat) (V : List Nat) (t sh : Nat) (oc : List Nat) : Prop := ∃ ot, t ≤ 3 ∧ sh ≤ 3 ∧ tauto m sh (V.drop t) = some (ot, sh') ∧ o = oc ++ ot

theorem TriAt.le {m : Nat} {d : Nat → Nat} {n i k j sh : Nat} {out acc : List Nat} (h : TriAt m d n i out k j sh acc) : i ≤ j ∧ j ≤ n ∧ sh ≤ 3 := by
  obtain ⟨_, _, h1, h2, h3, _⟩ := h; exact ⟨h1, h2, h3⟩
theorem some2 {a c : List Nat} {b e : Nat} (h : some (a, b) = some (c, e)) : a = c ∧ b = e := ⟨congrArg (fun x => x.1) (Option.some.inj h), congrArg (fun x => x.2) (Option.some.inj h)⟩
theorem TriAt.end_ {m : Nat} {d : Nat → Nat} {n i k sh : Nat} {out acc : List Nat} (h : TriAt m d n i out k n sh acc) : out = acc ∧ i + k = n := by
  obtain ⟨out', k', h1, h2, h3, h4, rfl, rfl⟩ := h
  rw [ds_nil d n n (Nat.le_refl _)] at h4
  obtain ⟨rfl, rfl⟩ := some2 h4
  exact ⟨by simp, by omega⟩
theorem TriAt.end1 {m : Nat} {d : Nat → Nat} {n i k j sh : Nat} {out acc : List Nat} (h : TriAt m d n i out k j sh acc) (hj : j + 1 = n) : out = acc ∧ i + k = j := by
  obtain ⟨out', k', h1, h2, h3, h4, rfl, rfl⟩ := h
  rw [ds_cons d n j (by omega), ds_nil d n (j + 1) (by omega)] at h4
  obtain ⟨rfl, rfl⟩ := some2 h4
  exact ⟨by simp, by omega⟩
theorem TriAt.stop {m : Nat} {d : Nat → Nat} {n i k j sh : Nat} {out acc : List Nat} (h : TriAt m d n i out k j sh acc) (hj : j + 1 < n) (hd : d j = 254) : out = acc ∧ i + k = j + 1 := by
  obtain ⟨out', k', h1, h2, h3, h4, rfl, rfl⟩ := h
  rw [ds_cons d n j (by omega), ds_cons d n (j + 1) hj, dTri, if_pos hd] at h4
  obtain ⟨rfl, rfl⟩ := some2 h4
  exact ⟨by simp, by omega⟩
theorem tstep_le {m sh x : Nat} {cs : List Nat} {sh2 : Nat} (h : tstep m sh x = some (cs, sh2)) : sh2 ≤ 3 := by
  unfold tstep at h
  split at h
  · split at h
    · have := (some2 h).2; omega
    · cases h
  · split at h
    · split at h
      · have := (some2 h).2; omega
      · split at h
        · have := (some2 h).2; omega
        · cases h
    · split at h
      · split at h
        · have := (some2 h).2; omega
        · cases h
      · split at h
        · split at h
          · have := (some2 h).2; omega
          · cases h
        · split at h
          · have := (some2 h).2; omega
          · cases h
theorem tauto_cons {m sh v : Nat} {vs o : List Nat} {sh' : Nat} (h : tauto m sh (v :: vs) = some (o, sh')) : ∃ cs sh2 ot, tstep m sh v = some (cs, sh2) ∧ tauto m sh2 vs = some (ot, sh') ∧ o = cs ++ ot := by
  unfold tauto at h
  cases h1 : tstep m sh v with
  | none => rw [h1] at h; cases h
  | some x =>
    rw [h1, Option.bind_some] at h
    cases h2 : tauto m x.2 vs with
    | none => rw [h2] at h; cases h
    | some y =>
      rw [h2, Option.map_some] at h
      obtain ⟨rfl, rfl⟩ := some2 h
      exact ⟨x.1, x.2, y.1, rfl, h2, rfl⟩
theorem TriAt.step {m : Nat} {d : Nat → Nat} {n i k j sh : Nat} {out acc : List Nat} (h : TriAt m d n i out k j sh acc) (hj : j + 1 < n) (hd : d j ≠ 254) :
    0 < 256 * d j + d (j + 1) ∧ ∃ o sh', ValAt m sh' o [(256 * d j + d (j + 1) - 1) / 1600, (256 * d j + d (j + 1) - 1) % 1600 / 40, (256 * d j + d (j + 1) - 1) % 40] 0 sh [] ∧ (sh' ≤ 3 → TriAt m d n i out k (j + 2) sh' (acc ++ o)) := by
  obtain ⟨out', k', h1, h2, h3, h4, rfl, rfl⟩ := h
  rw [ds_cons d n j (by omega), ds_cons d n (j + 1) hj, dTri, if_neg hd] at h4
  by_cases h0 : 256 * d j + d (j + 1) = 0
  · rw [if_pos h0] at h4; cases h4
  · rw [if_neg h0] at h4
    refine ⟨by omega, ?_⟩
    cases h5 : tauto m sh [(256 * d j + d (j + 1) - 1) / 1600, (256 * d j + d (j + 1) - 1) % 1600 / 40, (256 * d j + d (j + 1) - 1) % 40] with
    | none => rw [h5] at h4; cases h4
    | some x =>
      rw [h5, Option.bind_some] at h4
      cases h6 : dTri m x.2 (ds d n (j + 1 + 1)) with
      | none => rw [h6] at h4; cases h4
      | some y =>
        rw [h6, Option.map_some] at h4
        obtain ⟨rfl, rfl⟩ := some2 h4
        exact ⟨x.1, x.2, ⟨x.1, by omega, h3, by rw [List.drop_zero, h5], by simp⟩, fun h7 => ⟨y.1, y.2, by omega, by omega, h7, h6, by simp, by omega⟩⟩
theorem ValAt.end_ {m sh' : Nat} {o V : List Nat} {sh : Nat} {oc : List Nat} (hV : V.length = 3) (h : ValAt m sh' o V 3 sh oc) : o = oc ∧ sh' = sh ∧ sh ≤ 3 := by
  obtain ⟨ot, h1, h2, h3, rfl⟩ := h
  rw [List.drop_eq_nil_of_le (by omega)] at h3
  obtain ⟨rfl, rfl⟩ := some2 h3
  exact ⟨by simp, rfl, h2⟩
theorem ValAt.step {m sh' : Nat} {o V : List Nat} {t sh : Nat} {oc : List Nat} (hV : V.length = 3) (h : ValAt m sh' o V t sh oc) (ht : t < 3) : ∃ cs sh2, tstep m sh (V.getD t 0) = some (cs, sh2) ∧ ValAt m sh' o V (t + 1) sh2 (oc ++ cs) ∧ t ≤ 3 ∧ sh ≤ 3 := by
  obtain ⟨ot, h1, h2, h3, rfl⟩ := h
  rw [List.drop_eq_getElem_cons (by omega)] at h3
  obtain ⟨cs, sh2, ot2, h4, h5, rfl⟩ := tauto_cons h3
  refine ⟨cs, sh2, by rw [List.getD_eq_getElem?_getD, List.getElem?_eq_getElem (by omega)]; exact h4, ⟨ot2, by omega, tstep_le h4, h5, by simp⟩, h1, h2⟩
theorem ValAt.le {m sh' : Nat} {o V : List Nat} {t sh : Nat} {oc : List Nat} (h : ValAt m sh' o V t sh oc) : t ≤ 3 ∧ sh ≤ 3 := by
  obtain ⟨_, h1, h2, _⟩ := h; exact ⟨h1, h2⟩
/-- what a value does, by the shift -/
theorem tstep_cases {m sh x : Nat} {cs : List Nat} {sh2' : Nat} (hm : m = 2 ∨ m = 3) (hs : sh ≤ 3) (h : tstep m sh x = some (cs, sh2')) :
    (sh = 0 ∧ x < 3 ∧ cs = [] ∧ sh2' = x + 1) ∨ (sh = 0 ∧ 3 ≤ x ∧ x < 40 ∧ cs = [bas3 m x] ∧ sh2' = 0) ∨ (sh = 1 ∧ x < 32 ∧ cs = [x] ∧ sh2' = 0) ∨ (sh = 2 ∧ x < 27 ∧ cs = [sh2 x] ∧ sh2' = 0) ∨ (sh = 3 ∧ x < 32 ∧ cs = [sh3 m x] ∧ sh2' = 0) := by
  unfold tstep at h
  rw [if_neg (by omega)] at h
  have h4 : sh = 0 ∨ sh = 1 ∨ sh = 2 ∨ sh = 3 := by omega
  rcases h4 with rfl | rfl | rfl | rfl
  · rw [if_pos rfl] at h
    by_cases h1 : x < 3
    · rw [if_pos h1] at h; obtain ⟨rfl, rfl⟩ := some2 h; exact .inl ⟨rfl, h1, rfl, rfl⟩
    · rw [if_neg h1] at h
      by_cases h2 : x < 40
      · rw [if_pos h2] at h; obtain ⟨rfl, rfl⟩ := some2 h; exact .inr (.inl ⟨rfl, by omega, h2, rfl, rfl⟩)
      · rw [if_neg h2] at h; cases h
  · rw [if_neg (by decide), if_pos rfl] at h
    by_cases h1 : x < 32
    · rw [if_pos h1] at h; obtain ⟨rfl, rfl⟩ := some2 h; exact .inr (.inr (.inl ⟨rfl, h1, rfl, rfl⟩))
    · rw [if_neg h1] at h; cases h
  · rw [if_neg (by decide), if_neg (by decide), if_pos rfl] at h
    by_cases h1 : x < 27
    · rw [if_pos h1] at h; obtain ⟨rfl, rfl⟩ := some2 h; exact .inr (.inr (.inr (.inl ⟨rfl, h1, rfl, rfl⟩)))
    · rw [if_neg h1] at h; cases h
  · rw [if_neg (by decide), if_neg (by decide), if_neg (by decide)] at h
    by_cases h1 : x < 32
    · rw [if_pos h1] at h; obtain ⟨rfl, rfl⟩ := some2 h; exact .inr (.inr (.inr (.inr ⟨rfl, h1, rfl, rfl⟩)))
    · rw [if_neg h1] at h; cases h
theorem tstep_x12 {sh x : Nat} {cs : List Nat} {sh2' : Nat} (h : tstep 4 sh x = some (cs, sh2')) : x < 40 ∧ cs = [x12c x] ∧ sh2' = 0 := by
  unfold tstep at h
  rw [if_pos rfl] at h
  by_cases h1 : x < 40
  · rw [if_pos h1] at h; obtain ⟨rfl, rfl⟩ := some2 h; exact ⟨h1, rfl, rfl⟩
  · rw [if_neg h1] at h; cases h
theorem ch_lt (m x : Nat) : x < 40 → bas3 m x < 256 ∧ sh2 x < 256 ∧ sh3 m x < 256 ∧ x12c x < 256 := by
  intro h
  unfold bas3 sh2 sh3 x12c
  refine ⟨?_, ?_, ?_, ?_⟩ <;> (repeat' split) <;> omega
end Go.Proofs.YtcnallabiffemaaGreatDoor
