import Derived.Test.YtcnallabiffemaaGreatDoorP03
/- Part of the proof that a Data Matrix symbol of a text, damaged at most to half of its check codewords in each block, is decoded to the text (FnDecode): texts E18. -/
set_option linter.unusedVariables false
set_option linter.unusedSimpArgs false
namespace Go.Proofs.YtcnallabiffemaaGreatDoor
open Go.RowKit (wrap32 wrap64 intOf Hid Below)
open Zx

/-- the package's generator polynomials: how many coefficients, and these as one number to the base 256, the lowest coefficient last -/
def facTab : List (Nat × Nat) := [
  (5, 268151238884),
  (7, 71596832204014615),
  (10, 290111904914372837316636),
  (11, 145530292372511893899545263),
  (12, 75017107344683378915332233513),
  (14, 3758879300351795253163489266524572),
  (18, 16407800144563621220528473190517262344569683),
  (20, 986109518023562213335911135323740166238246322959),
  (24, 4737171466573216837494527850128893503353973678906229177908),
  (28, 26893163788309994538131807084405338402517685517639557218238504626131),
  (36, 218196519565030657052083402925171241228969070392368629167772032190987651420231358906357),
  (42, 2753336396330345488716826909736051417272951874556999937435108234335336229776502367988044848507240781),
  (48, 3060238733080163027868104716957794189385865987570041667807426495751994801873549518741657465475509453594729737127157),
  (56, 132192135955918464680676162182996660517881541599438932943417293953690949946253715133049618035598691172554400560738231766666041523898799),
  (62, 163065112779047643121122919338876656502598457556530258879030751436771792912511038932993076599460325678774267883513497387714814771271212720207254085106),
  (68, 41912306033048221056328195404364122750078953112212942496764699371862390059979760448496134827279364648606999999384967264037591723740662542312696476124103053992125660)]
def facAt (t : Nat) : List Nat := (List.range (facTab.getD t (0, 0)).1).map fun i => (facTab.getD t (0, 0)).2 / 256 ^ i % 256
def facL (t : Nat) : Nat := (facAt t).length
structure Facs (w0 w : World) (k : Nat) : Prop where
  bel : Below w0.heap.size w0 w
  sz : w.heap.size = w0.heap.size + k
  row : ∀ j, j < k → w.rowIs (w0.heap.size + j) 3 (facL j) (fun i => num ((facAt j).getD i 0))
theorem Facs.start (w : World) : Facs w w 0 := ⟨Below.refl _ _, rfl, fun j h => absurd h (Nat.not_lt_zero _)⟩
theorem getD_range (l : List Nat) : (List.range l.length).map (fun i => num (l.getD i 0)) = l.map num := by
  refine List.ext_getElem (by simp) fun i h1 h2 => ?_
  simp at h1
  simp [h1]
theorem Facs.next {w0 w : World} {k : Nat} (h : Facs w0 w k) (c : Array Value) (hc : c = ((facAt k).map num).toArray) : Facs w0 (w.alloc (.cells c 3)) (k + 1) :=
  ⟨h.bel.alloc (by rw [h.sz]; exact Nat.le_add_right _ _) _, by rw [World.size_alloc, h.sz]; rfl, fun j hj => by
    by_cases hjk : j < k
    · exact (h.row j hjk).alloc _
    · obtain rfl : j = k := by omega
      rw [← h.sz]; exact row_litT w c 3 _ _ (by rw [hc, facL, getD_range])⟩
def nn (l : List Nat) : Array Value := (l.map num).toArray
def FacsTo (w : World) (e : Ending) (w' : World) : Prop := e = .returned (.slice (some ⟨w.heap.size + 16, 0, none⟩) 16 16) ∧ w'.rowIs (w.heap.size + 16) 22 16 (fun j => .slice (some ⟨w.heap.size + j, 0, none⟩) (facL j) (facL j)) ∧ (∀ j, j < 16 → w'.rowIs (w.heap.size + j) 3 (facL j) (fun i => num ((facAt j).getD i 0))) ∧ Below w.heap.size w w'
def facW (w : World) : Nat → World
  | 0 => w
  | k + 1 => (facW w k).alloc (.cells (nn (facAt k)) 3)
theorem facsW (w : World) : ∀ k, Facs w (facW w k) k
  | 0 => Facs.start w
  | k + 1 => (facsW w k).next _ rfl
def facOut (w : World) : World := (facW w 16).alloc (.cells (((List.range 16).map (fun j => Value.slice (some ⟨w.heap.size + j, 0, none⟩) (facL j) (facL j))).toArray) 22)
theorem facFin (w : World) (e : Ending) (W : World) (he : e = .returned (.slice (some ⟨w.heap.size + 16, 0, none⟩) 16 16)) (hW : W = facOut w) : FacsTo w e W := by
  subst he hW
  have F := facsW w 16
  have r := row_litT (facW w 16) (((List.range 16).map (fun j => Value.slice (some ⟨w.heap.size + j, 0, none⟩) (facL j) (facL j))).toArray) 22 16 (fun j => .slice (some ⟨w.heap.size + j, 0, none⟩) (facL j) (facL j)) rfl
  rw [F.sz] at r
  exact ⟨rfl, r, fun j hj => (F.row j hj).alloc _, F.bel.alloc (by rw [F.sz]; exact Nat.le_add_right _ _) _⟩
set_option maxRecDepth 100000 in
set_option maxHeartbeats 4000000 in
theorem facsC (w : World) : Calls Tryz.prog 199 #[] w (FacsTo w) := by
  go_enter Tryz.func199, Tryz.ntmps199
  go_wp2
  go_ret
  exact facFin w _ _ (by kernel_rfl) (by kernel_rfl)
theorem setsC (w : World) : Calls Tryz.prog 198 #[] w fun e w' => e = .returned (.slice (some ⟨w.heap.size, 0, none⟩) 16 16) ∧ w'.rowIs w.heap.size 3 16 (fun j => num (facL j)) ∧ Below w.heap.size w w' := by
  go_enter Tryz.func198, Tryz.ntmps198
  go_wp2
  go_ret
  exact ⟨rfl, row_litT w _ 3 16 _ rfl, (Below.refl _ _).alloc (Nat.le_refl _) _⟩
theorem fac_lt : ∀ t, t < 16 → ∀ x ∈ facAt t, x < 256 := by decide +kernel
theorem fac_inj : ∀ t, t < 16 → ∀ j, j < t → facL j ≠ facL t := by decide +kernel
end Go.Proofs.YtcnallabiffemaaGreatDoor
