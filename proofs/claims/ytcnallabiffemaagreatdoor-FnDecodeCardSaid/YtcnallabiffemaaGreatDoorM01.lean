/- Part of the proof that a Data Matrix symbol of a text, damaged at most to half of its check codewords in each block, is decoded to the text (FnDecode): texts Gf Rs0 Rs1 Rs2. -/
set_option linter.unusedVariables false
set_option linter.unusedSimpArgs false
namespace Zx

/-- doubling in the field of 256 elements of Data Matrix -/
def dbl (x : Nat) : Nat := (2 * x) ^^^ (if x.testBit 7 then 301 else 0)

def dblN : Nat → Nat → Nat
  | 0, x => x
  | n + 1, x => dblN n (dbl x)

/-- the exponentials, by doubling: e(0) = 1 -/
def ex (k : Nat) : Nat := dblN k 1

theorem xor_left_comm (a b c : Nat) : a ^^^ (b ^^^ c) = b ^^^ (a ^^^ c) := by
  rw [← Nat.xor_assoc, Nat.xor_comm a b, Nat.xor_assoc]

theorem dbl_xor (x y : Nat) : dbl (x ^^^ y) = dbl x ^^^ dbl y := by
  unfold dbl
  have h : 2 * (x ^^^ y) = (2 * x) ^^^ (2 * y) := by
    have := @Nat.shiftLeft_xor_distrib 1 x y
    simpa [Nat.shiftLeft_eq, Nat.mul_comm] using this
  rw [h, Nat.testBit_xor]
  cases x.testBit 7 <;> cases y.testBit 7 <;> simp [Nat.xor_assoc]
  · rw [Nat.xor_comm 301, xor_left_comm]
  · rw [xor_left_comm 301, Nat.xor_self, Nat.xor_zero]

theorem dbl_zero : dbl 0 = 0 := rfl

theorem dblN_xor (n x y : Nat) : dblN n (x ^^^ y) = dblN n x ^^^ dblN n y := by
  induction n generalizing x y with
  | zero => rfl
  | succ n ih => simp only [dblN, dbl_xor, ih]

theorem dblN_zero (n : Nat) : dblN n 0 = 0 := by
  induction n with
  | zero => rfl
  | succ n ih => simpa [dblN, dbl_zero] using ih

theorem dblN_add (m n x : Nat) : dblN (m + n) x = dblN n (dblN m x) := by
  induction m generalizing x with
  | zero => simp [dblN]
  | succ m ih => rw [Nat.succ_add]; simp only [dblN, ih]

theorem dbl_lt : ∀ x, x < 256 → dbl x < 256 := by decide +kernel

theorem dblN_lt (n x : Nat) (h : x < 256) : dblN n x < 256 := by
  induction n generalizing x with
  | zero => exact h
  | succ n ih => exact ih _ (dbl_lt x h)

theorem ex_lt (k : Nat) : ex k < 256 := dblN_lt k 1 (by decide)

theorem ex_255 : ex 255 = 1 := by decide +kernel

theorem ex_add (m n : Nat) : ex (m + n) = dblN n (ex m) := dblN_add m n 1

theorem ex_per (k : Nat) : ex (k + 255) = ex k := by
  rw [Nat.add_comm, ex_add, ex_255]; rfl

theorem ex_mod (k : Nat) : ex (k % 255) = ex k := by
  induction k using Nat.strongRecOn with
  | _ k ih =>
    by_cases h : k < 255
    · rw [Nat.mod_eq_of_lt h]
    · obtain ⟨j, rfl⟩ : ∃ j, k = j + 255 := ⟨k - 255, by omega⟩
      rw [Nat.add_mod_right, ih j (by omega), ex_per]

theorem ex_succ (k : Nat) : ex (k + 1) = dbl (ex k) := by rw [ex_add]; rfl

/-- the least exponent, by search -/
def lgFrom : Nat → Nat → Nat → Nat
  | 0, k, _ => k
  | f + 1, k, x => if ex k = x then k else lgFrom f (k + 1) x

def lg (x : Nat) : Nat := lgFrom 255 0 x

theorem lg_facts : ∀ x, x < 256 → x ≠ 0 → lg x < 255 ∧ ex (lg x) = x := by decide +kernel

theorem ex_lg (x : Nat) (h : x < 256) (h0 : x ≠ 0) : ex (lg x) = x := (lg_facts x h h0).2
theorem lg_lt (x : Nat) (h : x < 256) (h0 : x ≠ 0) : lg x < 255 := (lg_facts x h h0).1

theorem lg_ex_lt : ∀ k, k < 255 → lg (ex k) = k := by decide +kernel

theorem lg_ex (k : Nat) : lg (ex k) = k % 255 := by
  rw [← ex_mod]; exact lg_ex_lt _ (Nat.mod_lt _ (by decide))

theorem ex_ne (k : Nat) : ex k ≠ 0 := by
  rw [← ex_mod]
  have : ∀ k, k < 255 → ex k ≠ 0 := by decide +kernel
  exact this _ (Nat.mod_lt _ (by decide))

theorem ex_inj {j k : Nat} (hj : j < 255) (hk : k < 255) (h : ex j = ex k) : j = k := by
  have := congrArg lg h
  rwa [lg_ex_lt j hj, lg_ex_lt k hk] at this

/-- the product -/
def gm (a b : Nat) : Nat := if a = 0 ∨ b = 0 then 0 else ex (lg a + lg b)

theorem gm_lt (a b : Nat) : gm a b < 256 := by
  unfold gm; split
  · decide
  · exact ex_lt _

theorem gm_comm (a b : Nat) : gm a b = gm b a := by
  unfold gm; rw [Nat.add_comm]; simp only [Or.comm]

theorem gm_zero (a : Nat) : gm a 0 = 0 := by simp [gm]
theorem zero_gm (a : Nat) : gm 0 a = 0 := by simp [gm]

theorem gm_ne {a b : Nat} (ha : a ≠ 0) (hb : b ≠ 0) : gm a b ≠ 0 := by
  unfold gm; rw [if_neg (by simp [ha, hb])]; exact ex_ne _

theorem gm_eq_zero {a b : Nat} (h : gm a b = 0) : a = 0 ∨ b = 0 := by
  by_cases ha : a = 0
  · exact .inl ha
  · by_cases hb : b = 0
    · exact .inr hb
    · exact absurd h (gm_ne ha hb)

theorem gm_ex_ex (j k : Nat) : gm (ex j) (ex k) = ex (j + k) := by
  unfold gm
  rw [if_neg (by simp [ex_ne]), lg_ex, lg_ex, ← ex_mod, ← ex_mod (j + k)]
  congr 1; omega

theorem gm_ex (k b : Nat) (hb : b < 256) : gm (ex k) b = dblN k b := by
  by_cases h0 : b = 0
  · subst h0; rw [gm_zero, dblN_zero]
  · rw [← ex_lg b hb h0, gm_ex_ex, Nat.add_comm, ex_add]

theorem gm_assoc (a b c : Nat) (ha : a < 256) (hb : b < 256) (hc : c < 256) : gm (gm a b) c = gm a (gm b c) := by
  by_cases h0 : a = 0
  · subst h0; simp [zero_gm]
  by_cases h1 : b = 0
  · subst h1; simp [zero_gm, gm_zero]
  by_cases h2 : c = 0
  · subst h2; simp [gm_zero]
  rw [← ex_lg a ha h0, ← ex_lg b hb h1, ← ex_lg c hc h2]
  simp only [gm_ex_ex, Nat.add_assoc]

theorem xor_lt {a b : Nat} (ha : a < 256) (hb : b < 256) : a ^^^ b < 256 := Nat.xor_lt_two_pow (n := 8) ha hb

theorem gm_xor (a b c : Nat) (ha : a < 256) (hb : b < 256) (hc : c < 256) : gm a (b ^^^ c) = gm a b ^^^ gm a c := by
  by_cases h0 : a = 0
  · subst h0; simp [zero_gm]
  · rw [← ex_lg a ha h0, gm_ex _ _ hb, gm_ex _ _ hc, gm_ex _ _ (xor_lt hb hc), dblN_xor]

theorem xor_gm (a b c : Nat) (ha : a < 256) (hb : b < 256) (hc : c < 256) : gm (a ^^^ b) c = gm a c ^^^ gm b c := by
  rw [gm_comm, gm_xor c a b hc ha hb, gm_comm c, gm_comm c]

theorem ex_zero : ex 0 = 1 := rfl
theorem gm_one (a : Nat) (ha : a < 256) : gm a 1 = a := by
  rw [gm_comm, ← ex_zero, gm_ex _ _ ha]; rfl
theorem one_gm (a : Nat) (ha : a < 256) : gm 1 a = a := by rw [gm_comm, gm_one a ha]

/-- the inverse -/
def gi (a : Nat) : Nat := ex (255 - lg a)

theorem gi_lt (a : Nat) : gi a < 256 := ex_lt _
theorem gi_ne (a : Nat) : gi a ≠ 0 := ex_ne _

theorem gm_gi (a : Nat) (ha : a < 256) (h0 : a ≠ 0) : gm a (gi a) = 1 := by
  have h := lg_lt a ha h0
  unfold gi
  rw [← ex_lg a ha h0, gm_ex_ex, lg_ex, ← ex_255]
  congr 1
  rw [Nat.mod_eq_of_lt h]; omega

end Zx
namespace Zx

/-- the field -/
structure F where
  v : Nat
  lt : v < 256

theorem F.ext {a b : F} (h : a.v = b.v) : a = b := by cases a; cases b; cases h; rfl
instance : Add F := ⟨fun a b => ⟨a.v ^^^ b.v, xor_lt a.lt b.lt⟩⟩
instance : Mul F := ⟨fun a b => ⟨gm a.v b.v, gm_lt _ _⟩⟩
instance : OfNat F 0 := ⟨⟨0, by decide⟩⟩
instance : OfNat F 1 := ⟨⟨1, by decide⟩⟩
instance : Inhabited F := ⟨0⟩
def F.inv (a : F) : F := ⟨gi a.v, gi_lt _⟩

section
variable (a b c : F)
theorem fadd_v : (a + b).v = a.v ^^^ b.v := rfl
theorem fmul_v : (a * b).v = gm a.v b.v := rfl
theorem fzero_v : (0 : F).v = 0 := rfl
theorem fone_v : (1 : F).v = 1 := rfl
theorem add_comm : a + b = b + a := F.ext (Nat.xor_comm _ _)
theorem add_assoc : a + b + c = a + (b + c) := F.ext (Nat.xor_assoc _ _ _)
theorem add_left_comm : a + (b + c) = b + (a + c) := F.ext (xor_left_comm _ _ _)
theorem add_zero : a + 0 = a := F.ext (Nat.xor_zero _)
theorem zero_add : 0 + a = a := F.ext (Nat.zero_xor _)
theorem add_self : a + a = 0 := F.ext (Nat.xor_self _)
theorem add_self_left : a + (a + b) = b := by rw [← add_assoc, add_self, zero_add]
theorem mul_comm : a * b = b * a := F.ext (gm_comm _ _)
theorem mul_assoc : a * b * c = a * (b * c) := F.ext (gm_assoc a.v b.v c.v a.lt b.lt c.lt)
theorem mul_left_comm : a * (b * c) = b * (a * c) := by rw [← mul_assoc, mul_comm a b, mul_assoc]
theorem mul_zero : a * 0 = 0 := F.ext (gm_zero a.v)
theorem zero_mul : 0 * a = 0 := F.ext (zero_gm a.v)
theorem mul_one : a * 1 = a := F.ext (gm_one a.v a.lt)
theorem one_mul : 1 * a = a := F.ext (one_gm a.v a.lt)
theorem mul_add : a * (b + c) = a * b + a * c := F.ext (gm_xor a.v b.v c.v a.lt b.lt c.lt)
theorem add_mul : (a + b) * c = a * c + b * c := F.ext (xor_gm a.v b.v c.v a.lt b.lt c.lt)
variable {a b c}
theorem v_ne (h : a ≠ 0) : a.v ≠ 0 := fun h' => h (F.ext h')
theorem mul_inv (h : a ≠ 0) : a * a.inv = 1 := F.ext (gm_gi a.v a.lt (v_ne h))
theorem inv_mul (h : a ≠ 0) : a.inv * a = 1 := by rw [mul_comm, mul_inv h]
theorem inv_ne : a.inv ≠ 0 := fun h => gi_ne a.v (congrArg F.v h : a.inv.v = 0)
theorem mul_ne (ha : a ≠ 0) (hb : b ≠ 0) : a * b ≠ 0 := fun h => gm_ne (v_ne ha) (v_ne hb) (congrArg F.v h)
theorem mul_eq_zero (h : a * b = 0) : a = 0 ∨ b = 0 := by
  by_cases ha : a = 0
  · exact .inl ha
  · by_cases hb : b = 0
    · exact .inr hb
    · exact absurd h (mul_ne ha hb)
theorem one_ne : (1 : F) ≠ 0 := fun h => absurd (congrArg F.v h) (by decide)
theorem add_eq_zero (h : a + b = 0) : a = b := by
  have : a + b + b = 0 + b := by rw [h]
  rwa [add_assoc, add_self, add_zero, zero_add] at this
theorem eq_add (h : a = b) : a + b = 0 := by rw [h, add_self]
theorem inv_unique (h : a * b = 1) : b = a.inv := by
  have ha : a ≠ 0 := fun h0 => one_ne (by rw [← h, h0, zero_mul])
  calc b = (a.inv * a) * b := by rw [inv_mul ha, one_mul]
    _ = a.inv := by rw [mul_assoc, h, mul_one]
theorem inv_inv (h : a ≠ 0) : a.inv.inv = a := (inv_unique (inv_mul h)).symm
end

instance : DecidableEq F := fun a b => if h : a.v = b.v then .isTrue (F.ext h) else .isFalse (fun h' => h (congrArg F.v h'))

def fpow (x : F) : Nat → F
  | 0 => 1
  | n + 1 => fpow x n * x

theorem fpow_add (x : F) (m n : Nat) : fpow x (m + n) = fpow x m * fpow x n := by
  induction n with
  | zero => simp [fpow, mul_one]
  | succ n ih => rw [← Nat.add_assoc]; simp only [fpow]; rw [ih, mul_assoc]

theorem fpow_mul_comm (x y : F) (n : Nat) : fpow (x * y) n = fpow x n * fpow y n := by
  induction n with
  | zero => simp [fpow, mul_one]
  | succ n ih => simp only [fpow]; rw [ih]; rw [mul_assoc, mul_assoc, mul_left_comm (fpow y n)]

theorem fpow_one (n : Nat) : fpow 1 n = 1 := by
  induction n with
  | zero => rfl
  | succ n ih => simp [fpow, ih, mul_one]

theorem fpow_ne {x : F} (h : x ≠ 0) (n : Nat) : fpow x n ≠ 0 := by
  induction n with
  | zero => exact one_ne
  | succ n ih => exact mul_ne ih h

/-! sums -/
def sm : Nat → (Nat → F) → F
  | 0, _ => 0
  | n + 1, f => sm n f + f n

theorem sm_congr {n : Nat} {f g : Nat → F} (h : ∀ i, i < n → f i = g i) : sm n f = sm n g := by
  induction n with
  | zero => rfl
  | succ n ih => simp only [sm]; rw [ih (fun i hi => h i (by omega)), h n (by omega)]

theorem sm_zero (n : Nat) : sm n (fun _ => 0) = 0 := by
  induction n with
  | zero => rfl
  | succ n ih => simp [sm, ih, add_zero]

theorem sm_eq_zero {n : Nat} {f : Nat → F} (h : ∀ i, i < n → f i = 0) : sm n f = 0 := by
  rw [sm_congr h, sm_zero]

theorem sm_add (n : Nat) (f g : Nat → F) : sm n (fun i => f i + g i) = sm n f + sm n g := by
  induction n with
  | zero => simp [sm, add_zero]
  | succ n ih => simp only [sm, ih]; rw [add_assoc, add_assoc, add_left_comm (sm n g)]

theorem sm_mul (n : Nat) (a : F) (f : Nat → F) : sm n (fun i => a * f i) = a * sm n f := by
  induction n with
  | zero => simp [sm, mul_zero]
  | succ n ih => simp only [sm, ih, mul_add]

theorem sm_mul' (n : Nat) (a : F) (f : Nat → F) : sm n (fun i => f i * a) = sm n f * a := by
  rw [mul_comm, ← sm_mul]; exact sm_congr fun i _ => mul_comm _ _

/-- the first term apart -/
theorem sm_succ' (n : Nat) (f : Nat → F) : sm (n + 1) f = f 0 + sm n (fun i => f (i + 1)) := by
  induction n with
  | zero => simp [sm, zero_add, add_zero]
  | succ n ih => rw [sm, ih]; simp only [sm]; rw [add_assoc]

theorem sm_rev (n : Nat) (f : Nat → F) : sm n f = sm n (fun i => f (n - 1 - i)) := by
  induction n with
  | zero => rfl
  | succ n ih =>
    rw [sm_succ' n (fun i => f (n + 1 - 1 - i)), sm, ih, add_comm]
    simp only [Nat.add_sub_cancel, Nat.sub_zero]
    congr 1
    exact sm_congr fun i hi => by congr 1; omega

theorem sm_ext {n m : Nat} (f : Nat → F) (h : n ≤ m) (hz : ∀ i, n ≤ i → i < m → f i = 0) : sm m f = sm n f := by
  induction m with
  | zero => have : n = 0 := by omega
            subst this; rfl
  | succ m ih =>
    by_cases hm : n = m + 1
    · subst hm; rfl
    · rw [sm, ih (by omega) (fun i h1 h2 => hz i h1 (by omega)), hz m (by omega) (by omega), add_zero]

theorem sm_comm (m n : Nat) (f : Nat → Nat → F) : sm m (fun i => sm n (fun j => f i j)) = sm n (fun j => sm m (fun i => f i j)) := by
  induction m with
  | zero => simp [sm, sm_zero]
  | succ m ih => simp only [sm]; rw [ih, ← sm_add]

/-- one term alone -/
theorem sm_single {n k : Nat} (f : Nat → F) (hk : k < n) (h : ∀ i, i < n → i ≠ k → f i = 0) : sm n f = f k := by
  induction n with
  | zero => omega
  | succ n ih =>
    by_cases hn : k = n
    · subst hn; rw [sm, sm_eq_zero (fun i hi => h i (by omega) (by omega)), zero_add]
    · rw [sm, ih (by omega) (fun i hi hne => h i (by omega) hne), h n (by omega) (by omega), add_zero]

/-! polynomials: their coefficients -/
abbrev Po := Nat → F

def padd (p q : Po) : Po := fun i => p i + q i
def psc (a : F) (p : Po) : Po := fun i => a * p i
def psh (p : Po) : Po := fun i => match i with | 0 => 0 | i + 1 => p i
def pzero : Po := fun _ => 0
def pone : Po := fun i => if i = 0 then 1 else 0
def conv (p q : Po) : Po := fun n => sm (n + 1) (fun i => p i * q (n - i))

theorem conv_comm (p q : Po) : conv p q = conv q p := by
  funext n
  unfold conv
  rw [sm_rev]
  exact sm_congr fun i hi => by
    rw [mul_comm]; congr 2; omega

theorem conv_add (p q r : Po) : conv p (padd q r) = padd (conv p q) (conv p r) := by
  funext n; unfold conv padd
  rw [← sm_add]; exact sm_congr fun i _ => mul_add _ _ _

theorem add_conv (p q r : Po) : conv (padd p q) r = padd (conv p r) (conv q r) := by
  rw [conv_comm, conv_add, conv_comm r, conv_comm r]

theorem conv_psc (a : F) (p q : Po) : conv p (psc a q) = psc a (conv p q) := by
  funext n; unfold conv psc
  rw [← sm_mul]; exact sm_congr fun i _ => mul_left_comm _ _ _

theorem psc_conv (a : F) (p q : Po) : conv (psc a p) q = psc a (conv p q) := by
  rw [conv_comm, conv_psc, conv_comm]

theorem psh_conv (p q : Po) : conv (psh p) q = psh (conv p q) := by
  funext n
  cases n with
  | zero => simp [conv, sm, psh, zero_mul, zero_add]
  | succ n =>
    show sm (n + 1 + 1) _ = conv p q n
    rw [sm_succ']
    simp only [psh, zero_mul, zero_add, conv]
    exact sm_congr fun i hi => by congr 2; omega

theorem conv_psh (p q : Po) : conv p (psh q) = psh (conv p q) := by
  rw [conv_comm, psh_conv, conv_comm]

theorem conv_pone (p : Po) : conv p pone = p := by
  funext n
  unfold conv
  rw [sm_single (k := n) _ (by omega) (fun i hi hne => by unfold pone; rw [if_neg (by omega), mul_zero])]
  simp [pone, mul_one]

theorem pone_conv (p : Po) : conv pone p = p := by rw [conv_comm, conv_pone]

theorem conv_pzero (p : Po) : conv p pzero = pzero := by
  funext n; unfold conv pzero; exact sm_eq_zero fun i _ => mul_zero _

theorem pzero_conv (p : Po) : conv pzero p = pzero := by rw [conv_comm, conv_pzero]

/-- a triangle of sums by its rows and by its columns -/
theorem sm_tri (n : Nat) (g : Nat → Nat → F) : sm n (fun i => sm (i + 1) (fun j => g j (i - j))) = sm n (fun j => sm (n - j) (fun k => g j k)) := by
  induction n with
  | zero => rfl
  | succ n ih =>
    rw [sm, ih, sm]
    have h : sm n (fun j => sm (n + 1 - j) (fun k => g j k)) = sm n (fun j => sm (n - j) (fun k => g j k)) + sm n (fun j => g j (n - j)) := by
      rw [← sm_add]
      exact sm_congr fun j hj => by
        rw [show n + 1 - j = (n - j) + 1 by omega]; rfl
    have h2 : sm (n + 1) (fun j => sm (n + 1 - j) (fun k => g j k)) = sm n (fun j => sm (n + 1 - j) (fun k => g j k)) + g n 0 := by
      show sm n (fun j => sm (n + 1 - j) (fun k => g j k)) + sm (n + 1 - n) (fun k => g n k) = _
      rw [show n + 1 - n = 1 by omega]; simp only [sm, zero_add]
    rw [h2, h]
    show _ + (sm n (fun j => g j (n - j)) + g n (n - n)) = _
    rw [Nat.sub_self, add_assoc]

theorem conv_assoc (p q r : Po) : conv (conv p q) r = conv p (conv q r) := by
  funext n
  show sm (n + 1) (fun i => sm (i + 1) (fun j => p j * q (i - j)) * r (n - i)) = sm (n + 1) (fun j => p j * sm (n - j + 1) (fun k => q k * r (n - j - k)))
  have h1 : sm (n + 1) (fun i => sm (i + 1) (fun j => p j * q (i - j)) * r (n - i)) = sm (n + 1) (fun i => sm (i + 1) (fun j => (fun j k => p j * (q k * r (n - j - k))) j (i - j))) := by
    exact sm_congr fun i hi => by
      rw [← sm_mul']
      exact sm_congr fun j hj => by
        show p j * q (i - j) * r (n - i) = p j * (q (i - j) * r (n - j - (i - j)))
        rw [mul_assoc, show n - j - (i - j) = n - i by omega]
  rw [h1, sm_tri (n + 1) (fun j k => p j * (q k * r (n - j - k)))]
  exact sm_congr fun j hj => by
    rw [← sm_mul]
    rw [show n + 1 - j = n - j + 1 by omega]

theorem conv_left_comm (p q r : Po) : conv p (conv q r) = conv q (conv p r) := by
  rw [← conv_assoc, conv_comm p q, conv_assoc]

/-- the same below a degree -/
def Mo (n : Nat) (p q : Po) : Prop := ∀ i, i < n → p i = q i
theorem Mo.conv {n : Nat} {p p' q q' : Po} (hp : Mo n p p') (hq : Mo n q q') : Mo n (conv p q) (conv p' q') :=
  fun i hi => sm_congr fun j hj => by rw [hp j (by omega), hq (i - j) (by omega)]
theorem Mo.add {n : Nat} {p p' q q' : Po} (hp : Mo n p p') (hq : Mo n q q') : Mo n (padd p q) (padd p' q') :=
  fun i hi => by show _ + _ = _ + _; rw [hp i hi, hq i hi]
theorem Mo.refl (n : Nat) (p : Po) : Mo n p p := fun _ _ => rfl
theorem Mo.symm {n : Nat} {p q : Po} (h : Mo n p q) : Mo n q p := fun i hi => (h i hi).symm
theorem Mo.trans {n : Nat} {p q r : Po} (h : Mo n p q) (h' : Mo n q r) : Mo n p r := fun i hi => (h i hi).trans (h' i hi)

/-- of a degree below d -/
def Bd (d : Nat) (p : Po) : Prop := ∀ i, d ≤ i → p i = 0
theorem Bd.mono {d e : Nat} {p : Po} (h : Bd d p) (hde : d ≤ e) : Bd e p := fun i hi => h i (by omega)
theorem Bd.add {d : Nat} {p q : Po} (hp : Bd d p) (hq : Bd d q) : Bd d (padd p q) := fun i hi => by
  show _ + _ = _; rw [hp i hi, hq i hi, add_zero]
theorem Bd.conv {d e : Nat} {p q : Po} (hp : Bd d p) (hq : Bd e q) : Bd (d + e - 1) (conv p q) := fun i hi => by
  refine sm_eq_zero fun j hj => ?_
  by_cases h : d ≤ j
  · rw [hp j h, zero_mul]
  · rw [hq (i - j) (by omega), mul_zero]
theorem Mo.eq {n : Nat} {p q : Po} (h : Mo n p q) (hp : Bd n p) (hq : Bd n q) : p = q := by
  funext i
  by_cases hi : i < n
  · exact h i hi
  · rw [hp i (by omega), hq i (by omega)]

/-- the value at a place -/
def ev (d : Nat) (p : Po) (x : F) : F := sm d (fun i => p i * fpow x i)

theorem ev_bd {d e : Nat} {p : Po} (h : Bd d p) (hde : d ≤ e) (x : F) : ev e p x = ev d p x :=
  sm_ext _ hde fun i h1 _ => by rw [h i h1, zero_mul]

theorem ev_add (d : Nat) (p q : Po) (x : F) : ev d (padd p q) x = ev d p x + ev d q x := by
  unfold ev; rw [← sm_add]; exact sm_congr fun i _ => add_mul _ _ _

theorem ev_psc (d : Nat) (a : F) (p : Po) (x : F) : ev d (psc a p) x = a * ev d p x := by
  unfold ev; rw [← sm_mul]; exact sm_congr fun i _ => mul_assoc _ _ _

theorem ev_psh (d : Nat) (p : Po) (x : F) : ev (d + 1) (psh p) x = x * ev d p x := by
  unfold ev; rw [sm_succ', ← sm_mul]
  simp only [psh, zero_mul, zero_add]
  exact sm_congr fun i _ => by simp only [fpow]; rw [mul_comm (fpow x i), mul_left_comm]

theorem split0 (p : Po) : p = padd (psc (p 0) pone) (psh (fun i => p (i + 1))) := by
  funext i
  cases i with
  | zero => simp [padd, psc, pone, psh, mul_one, add_zero]
  | succ i => simp [padd, psc, pone, psh, mul_zero, zero_add]

theorem ev_conv {d e : Nat} {p q : Po} (hp : Bd d p) (hq : Bd e q) (x : F) : ev (d + e) (conv p q) x = ev d p x * ev e q x := by
  induction d generalizing p with
  | zero =>
    have : p = pzero := funext fun i => hp i (by omega)
    subst this
    rw [pzero_conv]
    unfold ev pzero
    simp only [zero_mul, sm_zero, sm]
  | succ d ih =>
    have ht : Bd d (fun i => p (i + 1)) := fun i hi => hp (i + 1) (by omega)
    rw [split0 p, add_conv, ev_add, psc_conv, ev_psc, pone_conv, psh_conv, ev_add, ev_psc, ev_psh]
    rw [show d + 1 + e = (d + e) + 1 by omega, ev_psh, ih ht, ev_bd hq (by omega), add_mul]
    have h1 : ev (d + 1) pone x = 1 := by
      unfold ev
      rw [sm_single (k := 0) _ (by omega) (fun i _ hne => by unfold pone; rw [if_neg hne, zero_mul])]
      simp [pone, fpow, mul_one]
    rw [h1, mul_one, mul_assoc]

end Zx
namespace Zx

/-- times (1 + a x) -/
def mulLin (a : F) (p : Po) : Po := padd p (psc a (psh p))
def geo (a : F) : Po := fun n => fpow a n

theorem mulLin_conv (a : F) (p q : Po) : conv (mulLin a p) q = mulLin a (conv p q) := by
  unfold mulLin; rw [add_conv, psc_conv, psh_conv]

theorem conv_mulLin (a : F) (p q : Po) : conv p (mulLin a q) = mulLin a (conv p q) := by
  rw [conv_comm, mulLin_conv, conv_comm]

theorem mulLin_geo (a : F) : mulLin a (geo a) = pone := by
  funext n
  cases n with
  | zero => simp [mulLin, padd, psc, psh, geo, pone, fpow, mul_zero, add_zero]
  | succ n =>
    show fpow a n * a + a * fpow a n = 0
    rw [mul_comm a, add_self]

theorem psc_add (a : F) (p q : Po) : psc a (padd p q) = padd (psc a p) (psc a q) := funext fun _ => mul_add _ _ _
theorem psh_add (p q : Po) : psh (padd p q) = padd (psh p) (psh q) := by
  funext i; cases i <;> simp [psh, padd, add_zero]
theorem padd_assoc (p q r : Po) : padd (padd p q) r = padd p (padd q r) := funext fun _ => add_assoc _ _ _
theorem padd_comm (p q : Po) : padd p q = padd q p := funext fun _ => add_comm _ _
theorem padd_self (p : Po) : padd p p = pzero := funext fun _ => add_self _
theorem padd_zero (p : Po) : padd p pzero = p := funext fun _ => add_zero _
theorem padd_left_comm (p q r : Po) : padd p (padd q r) = padd q (padd p r) := funext fun _ => add_left_comm _ _ _
theorem psc_psc (a b : F) (p : Po) : psc a (psc b p) = psc (a * b) p := funext fun _ => (mul_assoc _ _ _).symm
theorem psc_one (p : Po) : psc 1 p = p := funext fun _ => one_mul _
theorem psc_eq (a : F) (p : Po) : psc a p = conv (psc a pone) p := by rw [psc_conv, pone_conv]

theorem mulLin_add (a : F) (p q : Po) : mulLin a (padd p q) = padd (mulLin a p) (mulLin a q) := by
  unfold mulLin; rw [psh_add, psc_add, padd_assoc, padd_assoc, padd_left_comm q]

theorem mulLin_psc (a b : F) (p : Po) : mulLin a (psc b p) = psc b (mulLin a p) := by
  rw [psc_eq, psc_eq b (mulLin a p), conv_mulLin]

theorem mulLin_bd {d : Nat} {a : F} {p : Po} (h : Bd d p) : Bd (d + 1) (mulLin a p) := fun i hi => by
  cases i with
  | zero => omega
  | succ i => show p (i + 1) + a * p i = 0; rw [h (i + 1) (by omega), h i (by omega), mul_zero, add_zero]

theorem ev_mulLin {d : Nat} {p : Po} (h : Bd d p) (a x : F) : ev (d + 1) (mulLin a p) x = (1 + a * x) * ev d p x := by
  unfold mulLin
  rw [ev_add, ev_psc, ev_psh, ev_bd h (by omega), add_mul, one_mul, mul_assoc]

/-- errors: their places' and their own values -/
abbrev Er := List (F × F)

def Lam : Er → Po
  | [] => pone
  | e :: l => mulLin e.1 (Lam l)
def Om : Er → Po
  | [] => pzero
  | e :: l => padd (mulLin e.1 (Om l)) (psc (e.2 * e.1) (Lam l))
/-- the syndromes, from the first on -/
def Sy : Er → Po
  | [] => pzero
  | e :: l => padd (psc (e.2 * e.1) (geo e.1)) (Sy l)

theorem key (l : Er) : conv (Lam l) (Sy l) = Om l := by
  induction l with
  | nil => exact conv_pzero _
  | cons e l ih =>
    simp only [Lam, Sy, Om]
    rw [conv_add, mulLin_conv e.1 (Lam l) (Sy l), ih, conv_psc, mulLin_conv, ← conv_mulLin, mulLin_geo, conv_pone, padd_comm]

theorem Lam_bd (l : Er) : Bd (l.length + 1) (Lam l) := by
  induction l with
  | nil => intro i hi; simp only [Lam, pone]; rw [if_neg (by simp at hi; omega)]
  | cons e l ih => exact mulLin_bd ih

theorem Om_bd (l : Er) : Bd l.length (Om l) := by
  induction l with
  | nil => intro i _; rfl
  | cons e l ih =>
    refine Bd.add (mulLin_bd ih) ?_
    intro i hi; show _ * _ = _; rw [Lam_bd l i (by simpa using hi), mul_zero]

theorem Lam_zero (l : Er) : Lam l 0 = 1 := by
  induction l with
  | nil => rfl
  | cons e l ih => show Lam l 0 + e.1 * 0 = 1; rw [ih, mul_zero, add_zero]

/-- the product of (1 + X x) -/
def prodL (l : List F) (x : F) : F := match l with
  | [] => 1
  | a :: l => (1 + a * x) * prodL l x

theorem ev_pone (d : Nat) (hd : 0 < d) (x : F) : ev d pone x = 1 := by
  unfold ev
  rw [sm_single (k := 0) _ hd (fun i _ hne => by unfold pone; rw [if_neg hne, zero_mul])]
  simp [pone, fpow, mul_one]

theorem ev_Lam (l : Er) (x : F) : ev (l.length + 1) (Lam l) x = prodL (l.map (·.1)) x := by
  induction l with
  | nil => exact ev_pone _ (by simp) _
  | cons e l ih => simp only [Lam, List.map_cons, prodL, List.length_cons]; rw [ev_mulLin (Lam_bd l), ih]

theorem prodL_zero {l : List F} {x : F} (h : prodL l x = 0) : ∃ a ∈ l, a * x = 1 := by
  induction l with
  | nil => exact absurd h one_ne
  | cons a l ih =>
    rcases mul_eq_zero h with h | h
    · exact ⟨a, by simp, (add_eq_zero h).symm⟩
    · obtain ⟨b, hb, h⟩ := ih h; exact ⟨b, by simp [hb], h⟩

theorem prodL_root {l : List F} {a x : F} (ha : a ∈ l) (h : a * x = 1) : prodL l x = 0 := by
  induction l with
  | nil => simp at ha
  | cons b l ih =>
    simp only [prodL]
    rcases List.mem_cons.1 ha with rfl | ha
    · rw [h, add_self, zero_mul]
    · rw [ih ha, mul_zero]

theorem prodL_perm {l l' : List F} (h : l.Perm l') (x : F) : prodL l x = prodL l' x := by
  induction h with
  | nil => rfl
  | cons a _ ih => simp only [prodL, ih]
  | swap a b l => simp only [prodL]; rw [mul_left_comm]
  | trans _ _ ih ih' => rw [ih, ih']

/-- the errors' places are different, and not zero, nor are the errors -/
structure Good (l : Er) : Prop where
  nodup : (l.map (·.1)).Nodup
  place : ∀ e ∈ l, e.1 ≠ 0
  val : ∀ e ∈ l, e.2 ≠ 0

theorem Good.tail {e : F × F} {l : Er} (h : Good (e :: l)) : Good l :=
  ⟨(List.nodup_cons.1 h.nodup).2, fun a ha => h.place a (by simp [ha]), fun a ha => h.val a (by simp [ha])⟩
theorem Good.head {e : F × F} {l : Er} (h : Good (e :: l)) : ∀ a ∈ l, a.1 ≠ e.1 := fun a ha hae =>
  (List.nodup_cons.1 h.nodup).1 (List.mem_map.2 ⟨a, ha, hae⟩)

theorem root_ne {a b : F} (ha : a ≠ 0) (hab : a ≠ b) : 1 + b * a.inv ≠ 0 := fun h => hab (by
  have h1 : b * a.inv = 1 := (add_eq_zero h).symm
  have : b * a.inv * a = 1 * a := by rw [h1]
  rw [mul_assoc, inv_mul ha, mul_one, one_mul] at this
  exact this.symm)

/-- the evaluator at an error's place -/
theorem ev_Om {l : Er} (hg : Good l) {e : F × F} (he : e ∈ l) :
    ev l.length (Om l) e.1.inv = e.2 * e.1 * prodL ((l.map (·.1)).erase e.1) e.1.inv := by
  induction l with
  | nil => simp at he
  | cons b l ih =>
    simp only [Om, List.length_cons, List.map_cons]
    rw [ev_add, ev_mulLin (Om_bd l), ev_psc, ev_Lam]
    have hne := hg.place e he
    rcases List.mem_cons.1 he with rfl | he'
    · rw [mul_inv hne, add_self, zero_mul, zero_add, List.erase_cons_head]
    · have hbe : e.1 ≠ b.1 := hg.head e he'
      rw [List.erase_cons_tail (by simpa using hbe.symm), ih hg.tail he']
      simp only [prodL]
      have : prodL (l.map (·.1)) e.1.inv = 0 := prodL_root (List.mem_map_of_mem he') (mul_inv hne)
      rw [this, mul_zero, add_zero, mul_left_comm]

theorem prodL_erase_ne {l : Er} (hg : Good l) {e : F × F} (he : e ∈ l) : prodL ((l.map (·.1)).erase e.1) e.1.inv ≠ 0 := fun h => by
  obtain ⟨a, ha, h1⟩ := prodL_zero h
  have hne := hg.place e he
  have : a = e.1 := by
    have h2 : a * e.1.inv * e.1 = 1 * e.1 := by rw [h1]
    rwa [mul_assoc, inv_mul hne, mul_one, one_mul] at h2
  subst this
  exact (List.Nodup.not_mem_erase hg.nodup) ha

theorem ev_Om_ne {l : Er} (hg : Good l) {e : F × F} (he : e ∈ l) : ev l.length (Om l) e.1.inv ≠ 0 := by
  rw [ev_Om hg he]
  exact mul_ne (mul_ne (hg.val e he) (hg.place e he)) (prodL_erase_ne hg he)

/-- division by (1 + a x) -/
theorem divLin {d : Nat} {t : Po} (ht : Bd (d + 1) t) {a : F} (ha : a ≠ 0) (h : ev (d + 1) t a.inv = 0) :
    ∃ q, t = mulLin a q ∧ Bd d q := by
  refine ⟨conv t (geo a), ?_, ?_⟩
  · rw [← conv_mulLin, mulLin_geo, conv_pone]
  · intro n hn
    have h1 : conv t (geo a) n = fpow a n * ev (n + 1) t a.inv := by
      unfold conv ev geo
      rw [← sm_mul]
      refine sm_congr fun i hi => ?_
      rw [mul_left_comm]; congr 1
      rw [show n = (n - i) + i by omega, fpow_add, Nat.add_sub_cancel]
      rw [mul_assoc, ← fpow_mul_comm, mul_inv ha, fpow_one, mul_one]
    rw [h1, ev_bd ht (by omega), h, mul_zero]

/-- a polynomial with all roots of the locator is a multiple of it -/
theorem factor {l : Er} (hg : Good l) {d : Nat} {t : Po} (ht : Bd (d + 1) t) (hr : ∀ e ∈ l, ev (d + 1) t e.1.inv = 0) (hnz : t ≠ pzero) :
    ∃ q, t = conv (Lam l) q ∧ l.length ≤ d ∧ Bd (d + 1 - l.length) q := by
  induction l generalizing d t with
  | nil => exact ⟨t, (pone_conv t).symm, by simp, by simpa using ht⟩
  | cons e l ih =>
    obtain ⟨q, hq, hb⟩ := divLin ht (hg.place e (by simp)) (hr e (by simp))
    have hqz : q ≠ pzero := fun h => hnz (by
      rw [hq, h]; funext i; cases i <;> simp [mulLin, padd, psc, psh, pzero, mul_zero, add_zero])
    cases d with
    | zero => exact absurd (funext fun i => hb i (by omega)) hqz
    | succ d =>
      obtain ⟨q', hq', hl, hb'⟩ := ih hg.tail hb (fun a ha => by
        have h1 := hr a (by simp [ha])
        rw [hq, ev_mulLin hb] at h1
        rcases mul_eq_zero h1 with h2 | h2
        · exact absurd h2 (root_ne (hg.tail.place a ha) (hg.head a ha))
        · exact h2) hqz
      refine ⟨q', ?_, by simpa using hl, ?_⟩
      · rw [hq, hq']; simp only [Lam]; rw [mulLin_conv]
      · simpa [Nat.add_sub_add_right] using hb'

/-- a power series that begins with 1 can be cancelled -/
theorem cancel {p a b : Po} (h0 : p 0 = 1) (h : conv p a = conv p b) : a = b := by
  funext n
  induction n using Nat.strongRecOn with
  | _ n ih =>
    have h1 := congrFun h n
    unfold conv at h1
    rw [sm_succ', sm_succ', h0, one_mul, one_mul] at h1
    have h2 : sm n (fun i => p (i + 1) * a (n - (i + 1))) = sm n (fun i => p (i + 1) * b (n - (i + 1))) :=
      sm_congr fun i hi => by rw [ih (n - (i + 1)) (by omega)]
    rw [h2] at h1
    simp only [Nat.sub_zero] at h1
    have h3 := congrArg (· + sm n (fun i => p (i + 1) * b (n - (i + 1)))) h1
    simpa [add_assoc, add_self, add_zero] using h3

theorem top {d : Nat} {p : Po} (h : Bd d p) (hnz : p ≠ pzero) : ∃ m, m < d ∧ p m ≠ 0 ∧ Bd (m + 1) p := by
  induction d with
  | zero => exact absurd (funext fun i => h i (by omega)) hnz
  | succ d ih =>
    by_cases hd : p d = 0
    · obtain ⟨m, h1, h2⟩ := ih (fun i hi => by
        by_cases hid : i = d
        · rw [hid, hd]
        · exact h i (by omega))
      exact ⟨m, by omega, h2⟩
    · exact ⟨d, by omega, hd, h⟩

theorem conv_top {m k : Nat} {p q : Po} (hp : Bd (m + 1) p) (hq : Bd (k + 1) q) : conv p q (m + k) = p m * q k := by
  unfold conv
  rw [sm_single (k := m) _ (by omega) ?_]
  · rw [Nat.add_sub_cancel_left]
  · intro i hi hne
    by_cases h : i < m
    · rw [hq (m + k - i) (by omega), mul_zero]
    · rw [hp i (by omega), zero_mul]

theorem const_of {d e : Nat} {p q : Po} (hp : Bd d p) (hq : Bd e q) (h : conv p q = pone) : ∃ c, c ≠ 0 ∧ p = psc c pone := by
  have hp0 : p ≠ pzero := fun h0 => one_ne (by have := congrFun h 0; rw [h0, pzero_conv] at this; exact this.symm)
  have hq0 : q ≠ pzero := fun h0 => one_ne (by have := congrFun h 0; rw [h0, conv_pzero] at this; exact this.symm)
  obtain ⟨m, _, hm, hbm⟩ := top hp hp0
  obtain ⟨k, _, hk, hbk⟩ := top hq hq0
  have h1 := conv_top hbm hbk
  rw [h] at h1
  have h0 : m + k = 0 := by
    by_cases h2 : m + k = 0
    · exact h2
    · unfold pone at h1; rw [if_neg h2] at h1; exact absurd h1.symm (mul_ne hm hk)
  have hm0 : m = 0 := by omega
  subst hm0
  refine ⟨p 0, hm, ?_⟩
  funext i
  cases i with
  | zero => show _ = p 0 * 1; rw [mul_one]
  | succ i => show _ = p 0 * 0; rw [mul_zero]; exact hbm _ (by omega)

def mono (n : Nat) : Po := fun i => if i = n then 1 else 0

def pshN : Nat → Po → Po
  | 0, p => p
  | n + 1, p => psh (pshN n p)
theorem pshN_get (n : Nat) (p : Po) (i : Nat) : pshN n p i = if i < n then 0 else p (i - n) := by
  induction n generalizing i with
  | zero => simp [pshN]
  | succ n ih =>
    cases i with
    | zero => simp [pshN, psh]
    | succ i => simp only [pshN, psh, ih, Nat.add_lt_add_iff_right, Nat.add_sub_add_right]
theorem conv_pshN (n : Nat) (p q : Po) : conv p (pshN n q) = pshN n (conv p q) := by
  induction n with
  | zero => rfl
  | succ n ih => simp only [pshN]; rw [conv_psh, ih]

/-- what Euclid's steps leave is the locator and the evaluator, but for a factor -/
theorem euclid_ends {n : Nat} {l : Er} (hg : Good l) (hv : 2 * l.length ≤ n) {S rL r tL t : Po} {dt dr e : Nat}
    (hS : Mo n S (Sy l)) (ht : Bd (dt + 1) t) (hr : Bd (dr + 1) r) (hdt : 2 * dt ≤ n) (hdr : 2 * dr < n)
    (hrL : Bd e rL) (htL : Bd e tL)
    (h1 : Mo n (conv t S) r) (h2 : Mo n (conv tL S) rL) (h3 : padd (conv rL t) (conv r tL) = mono n) :
    ∃ c, c ≠ 0 ∧ t = psc c (Lam l) ∧ r = psc c (Om l) := by
  -- the key equation without the modulus
  have hLS : Mo n (conv (Lam l) S) (Om l) := by
    rw [← key]; exact Mo.conv (Mo.refl _ _) hS
  have e1 : conv (Lam l) r = conv t (Om l) := by
    refine Mo.eq (n := n) ?_ ?_ ?_
    · have a1 : Mo n (conv (Lam l) r) (conv (Lam l) (conv t S)) := Mo.conv (Mo.refl _ _) h1.symm
      have a2 : Mo n (conv t (conv (Lam l) S)) (conv t (Om l)) := Mo.conv (Mo.refl _ _) hLS
      rw [conv_left_comm] at a1
      exact a1.trans a2
    · exact (Bd.conv (Lam_bd l) hr).mono (by omega)
    · exact (Bd.conv ht (Om_bd l)).mono (by omega)
  have hnz : t ≠ pzero := fun h0 => by
    subst h0
    have hr0 : Mo n r pzero := by rw [pzero_conv] at h1; exact h1.symm
    have hr1 : r = pzero := Mo.eq hr0 (hr.mono (by omega)) (fun _ _ => rfl)
    subst hr1
    have := congrFun h3 n
    rw [conv_pzero, pzero_conv] at this
    simp [padd, pzero, mono, add_zero] at this
    exact one_ne this.symm
  obtain ⟨q, hq, hlen, hqb⟩ := factor hg ht (fun a ha => by
    have h4 : ev (l.length + 1 + (dr + 1)) (conv (Lam l) r) a.1.inv = 0 := by
      rw [ev_conv (Lam_bd l) hr, ev_Lam, prodL_root (List.mem_map_of_mem ha) (mul_inv (hg.place a ha)), zero_mul]
    have h5 : ev (dt + 1 + l.length) (conv t (Om l)) a.1.inv = ev (dt + 1) t a.1.inv * ev l.length (Om l) a.1.inv := ev_conv ht (Om_bd l) _
    have h6 : ev (l.length + 1 + (dr + 1)) (conv (Lam l) r) a.1.inv = ev (dt + 1 + l.length) (conv t (Om l)) a.1.inv := by
      rw [e1]
      have b1 := Bd.conv ht (Om_bd l)
      have b2 : Bd (l.length + 1 + (dr + 1) - 1) (conv t (Om l)) := by rw [← e1]; exact Bd.conv (Lam_bd l) hr
      rcases Nat.le_total (l.length + 1 + (dr + 1)) (dt + 1 + l.length) with hle | hle
      · rw [ev_bd (b2.mono (by omega)) hle]
      · exact ev_bd (b1.mono (by omega)) hle _
    rw [h4, h5] at h6
    rcases mul_eq_zero h6.symm with h7 | h7
    · exact h7
    · exact absurd h7 (ev_Om_ne hg ha)) hnz
  have e2 : r = conv q (Om l) := by
    refine cancel (Lam_zero l) ?_
    rw [e1, hq, conv_assoc]
  -- the cofactor
  have hP : Mo n (padd (conv rL (Lam l)) (conv tL (Om l))) pzero := by
    have a1 : Mo n (conv rL (Lam l)) (conv (conv tL S) (Lam l)) := Mo.conv h2.symm (Mo.refl _ _)
    have a2 : Mo n (conv tL (conv (Lam l) S)) (conv tL (Om l)) := Mo.conv (Mo.refl _ _) hLS
    rw [conv_assoc, conv_comm S] at a1
    intro i hi
    show _ + _ = (0 : F)
    rw [a1 i hi, a2 i hi, add_self]
  have e3 : conv q (padd (conv rL (Lam l)) (conv tL (Om l))) = mono n := by
    rw [conv_add, conv_left_comm q rL, conv_left_comm q tL, conv_comm q (Lam l), ← hq, ← e2, conv_comm tL r]
    exact h3
  let P' : Po := fun i => padd (conv rL (Lam l)) (conv tL (Om l)) (i + n)
  have hPP : padd (conv rL (Lam l)) (conv tL (Om l)) = pshN n P' := by
    funext i
    rw [pshN_get]
    by_cases hi : i < n
    · rw [if_pos hi, hP i hi]; rfl
    · rw [if_neg hi]; show _ = padd _ _ (i - n + n); rw [Nat.sub_add_cancel (by omega)]
  have e4 : conv q P' = pone := by
    rw [hPP, conv_pshN] at e3
    funext i
    have := congrFun e3 (i + n)
    rw [pshN_get, if_neg (by omega), Nat.add_sub_cancel] at this
    rw [this]; unfold mono pone
    by_cases hi : i = 0
    · subst hi; simp
    · rw [if_neg (by omega), if_neg hi]
  have hP'b : Bd (e + (l.length + 1)) P' := fun i hi => by
    show conv rL (Lam l) (i + n) + conv tL (Om l) (i + n) = 0
    rw [Bd.conv hrL (Lam_bd l) _ (by omega), Bd.conv htL (Om_bd l) _ (by omega), add_zero]
  obtain ⟨c, hc, hqc⟩ := const_of hqb hP'b e4
  refine ⟨c, hc, ?_, ?_⟩
  · rw [hq, hqc, conv_psc, conv_pone]
  · rw [e2, hqc, psc_conv, pone_conv]

end Zx
namespace Zx

/-! polynomials as the code has them: lists of coefficients, the highest one first -/

def co (l : List F) : Po := fun i => l.reverse.getD i 0
def hi (l : List F) : Po := fun i => l.getD i 0

theorem co_get (l : List F) (i : Nat) : co l i = if i < l.length then hi l (l.length - 1 - i) else 0 := by
  unfold co hi
  by_cases h : i < l.length
  · rw [if_pos h, List.getD_eq_getElem?_getD, List.getD_eq_getElem?_getD, List.getElem?_reverse h]
  · rw [if_neg h, List.getD_eq_getElem?_getD, List.getElem?_eq_none (by simpa using h)]; rfl

theorem co_bd (l : List F) : Bd l.length (co l) := fun i hi => by rw [co_get, if_neg (by omega)]
theorem hi_bd (l : List F) : Bd l.length (hi l) := fun i h => by
  unfold hi; rw [List.getD_eq_getElem?_getD, List.getElem?_eq_none h]; rfl

theorem co_cons (a : F) (l : List F) : co (a :: l) = padd (co l) (psc a (mono l.length)) := by
  funext i
  show co (a :: l) i = co l i + a * mono l.length i
  rw [co_get, co_get]
  unfold mono
  rcases Nat.lt_trichotomy i l.length with h | h | h
  · rw [if_pos (by simp; omega), if_pos h, if_neg (by omega), mul_zero, add_zero]
    unfold hi
    rw [show (a :: l).length - 1 - i = (l.length - 1 - i) + 1 by simp; omega]; simp
  · subst h
    rw [if_pos (by simp), if_neg (by omega), if_pos rfl, mul_one, zero_add]
    unfold hi; simp
  · rw [if_neg (by simp; omega), if_neg (by omega), if_neg (by omega), mul_zero, add_zero]

theorem co_zero_cons (l : List F) : co (0 :: l) = co l := by
  rw [co_cons]; funext i; show _ + 0 * _ = _; rw [zero_mul, add_zero]

theorem co_snoc (l : List F) (c : F) : co (l ++ [c]) = padd (psc c pone) (psh (co l)) := by
  funext i
  cases i with
  | zero => simp [co, padd, psc, pone, psh, mul_one, add_zero]
  | succ i => simp [co, padd, psc, pone, psh, mul_zero, zero_add]

theorem co_nil : co [] = pzero := rfl
theorem co_z : co [0] = pzero := by rw [co_zero_cons, co_nil]
theorem co_o : co [1] = pone := by
  rw [co_cons, co_nil]; funext i; simp [padd, pzero, psc, mono, pone, zero_add, one_mul]

/-- without noughts ahead -/
def nrm (l : List F) : List F := match l.dropWhile (· = 0) with | [] => [0] | m => m

theorem co_dropWhile (l : List F) : co (l.dropWhile (· = 0)) = co l := by
  induction l with
  | nil => rfl
  | cons a l ih =>
    by_cases h : a = 0
    · subst h; rw [List.dropWhile_cons_of_pos (by simp), ih, co_zero_cons]
    · rw [List.dropWhile_cons_of_neg (by simpa using h)]

theorem co_nrm (l : List F) : co (nrm l) = co l := by
  rw [← co_dropWhile l]
  unfold nrm
  split
  · rename_i h; rw [h, co_z, co_nil]
  · rfl

/-- as the code keeps them -/
def Wf (l : List F) : Prop := l = [0] ∨ ∃ a m, l = a :: m ∧ a ≠ 0

theorem Wf_nrm (l : List F) : Wf (nrm l) := by
  unfold nrm
  split
  · exact .inl rfl
  · rename_i m hm
    match h : l.dropWhile (· = 0) with
    | [] => exact absurd h hm
    | a :: m =>
      have := List.head_dropWhile_not (p := fun x : F => decide (x = 0)) (l := l) (by rw [h]; simp)
      simp only [h, List.head_cons] at this
      exact .inr ⟨a, m, h, by simpa using this⟩

theorem Wf.pos {l : List F} (h : Wf l) : 0 < l.length := by
  rcases h with rfl | ⟨a, m, rfl, _⟩ <;> simp

theorem nrm_len (l : List F) : (nrm l).length ≤ max l.length 1 := by
  unfold nrm
  have : (l.dropWhile (· = 0)).length ≤ l.length := (List.dropWhile_sublist _).length_le
  split
  · simp; omega
  · omega

theorem nrm_len_zero (l : List F) (h : l ≠ []) : (nrm (0 :: l)).length ≤ l.length := by
  have h1 : nrm (0 :: l) = nrm l := by unfold nrm; rw [List.dropWhile_cons_of_pos (by simp)]
  rw [h1]
  have := nrm_len l
  have : 0 < l.length := List.length_pos_iff.2 h
  omega

theorem Wf.top {l : List F} (h : Wf l) (hl : 1 < l.length) : co l (l.length - 1) ≠ 0 := by
  rcases h with rfl | ⟨a, m, rfl, ha⟩
  · simp at hl
  · rw [co_get, if_pos (by simp)]; simpa [hi] using ha

theorem Wf.len_le {l : List F} (h : Wf l) {d : Nat} (hd : 1 ≤ d) (hb : Bd d (co l)) : l.length ≤ d := by
  by_cases hl : 1 < l.length
  · by_cases hc : l.length ≤ d
    · exact hc
    · exact absurd (hb _ (by omega)) (h.top hl)
  · omega

/-- a sum: of a list and of another one that is at least as long -/
def sumL (s l : List F) : List F := (List.range l.length).map fun i => if i < l.length - s.length then hi l i else hi s (i - (l.length - s.length)) + hi l i

theorem sumL_len (s l : List F) : (sumL s l).length = l.length := by simp [sumL]

theorem hi_map (n : Nat) (f : Nat → F) (i : Nat) (h : i < n) : hi ((List.range n).map f) i = f i := by
  unfold hi; rw [List.getD_eq_getElem?_getD]; simp [h]

theorem co_sumL (s l : List F) (h : s.length ≤ l.length) : co (sumL s l) = padd (co s) (co l) := by
  funext i
  show co (sumL s l) i = co s i + co l i
  rw [co_get, co_get, co_get, sumL_len]
  by_cases hi' : i < l.length
  · rw [if_pos hi', if_pos hi']
    unfold sumL
    rw [hi_map _ _ _ (by omega)]
    by_cases h2 : i < s.length
    · rw [if_pos h2, if_neg (by omega)]; congr 2; omega
    · rw [if_neg h2, if_pos (by omega), zero_add]
  · rw [if_neg hi', if_neg hi', if_neg (by omega), add_zero]

/-- AddOrSubtract -/
def addP (a b : List F) : List F :=
  if hi a 0 = 0 then b else if hi b 0 = 0 then a else if b.length < a.length then nrm (sumL b a) else nrm (sumL a b)

theorem Wf.zero {l : List F} (h : Wf l) (hz : hi l 0 = 0) : l = [0] := by
  rcases h with rfl | ⟨a, m, rfl, ha⟩
  · rfl
  · exact absurd (by simpa [hi] using hz) ha

theorem co_addP {a b : List F} (ha : Wf a) (hb : Wf b) : co (addP a b) = padd (co a) (co b) := by
  unfold addP
  split
  · rename_i h; rw [ha.zero h, co_z]; funext i; exact (zero_add _).symm
  · split
    · rename_i h; rw [hb.zero h, co_z]; funext i; exact (add_zero _).symm
    · split
      · rw [co_nrm, co_sumL _ _ (by omega), padd_comm]
      · rw [co_nrm, co_sumL _ _ (by omega)]

theorem Wf_addP {a b : List F} (ha : Wf a) (hb : Wf b) : Wf (addP a b) := by
  unfold addP
  split
  · exact hb
  · split
    · exact ha
    · split <;> exact Wf_nrm _

/-- MultiplyByMonomial -/
def mulMono (l : List F) (d : Nat) (c : F) : List F :=
  if c = 0 then [0] else nrm (l.map (· * c) ++ List.replicate d 0)

theorem co_append_zeros (l : List F) (d : Nat) : co (l ++ List.replicate d 0) = pshN d (co l) := by
  induction d with
  | zero => simp [pshN]
  | succ d ih =>
    rw [List.replicate_succ', ← List.append_assoc, co_snoc, ih]
    funext i; show 0 * _ + _ = _; rw [zero_mul, zero_add]; rfl

theorem co_map (l : List F) (c : F) : co (l.map (· * c)) = psc c (co l) := by
  funext i
  show co _ i = c * co l i
  rw [co_get, co_get, List.length_map]
  split
  · rename_i h
    unfold hi
    rw [List.getD_eq_getElem?_getD, List.getD_eq_getElem?_getD, List.getElem?_map, List.getElem?_eq_getElem (by omega)]
    exact mul_comm _ _
  · rw [mul_zero]

theorem psc_zero (p : Po) : psc 0 p = pzero := funext fun _ => zero_mul _
theorem psc_pzero (a : F) : psc a pzero = pzero := funext fun _ => mul_zero _
theorem pshN_pzero (n : Nat) : pshN n pzero = pzero := by
  funext i; rw [pshN_get]; split <;> rfl
theorem pshN_psc (n : Nat) (a : F) (p : Po) : pshN n (psc a p) = psc a (pshN n p) := by
  funext i; show _ = a * _; rw [pshN_get, pshN_get]; split
  · rw [mul_zero]
  · rfl

theorem co_mulMono (l : List F) (d : Nat) (c : F) : co (mulMono l d c) = psc c (pshN d (co l)) := by
  unfold mulMono
  split
  · rename_i h; rw [h, psc_zero, co_z]
  · rw [co_nrm, co_append_zeros, co_map, pshN_psc]

theorem Wf_mulMono (l : List F) (d : Nat) (c : F) : Wf (mulMono l d c) := by
  unfold mulMono; split
  · exact .inl rfl
  · exact Wf_nrm _

/-- BuildMonomial -/
def monoP (d : Nat) (c : F) : List F := if c = 0 then [0] else nrm (c :: List.replicate d 0)

theorem pshN_pone (d : Nat) : pshN d pone = mono d := by
  funext i; rw [pshN_get]; unfold pone mono
  split
  · rw [if_neg (by omega)]
  · by_cases h : i = d
    · rw [if_pos (by omega), if_pos h]
    · rw [if_neg (by omega), if_neg h]

theorem co_monoP (d : Nat) (c : F) : co (monoP d c) = psc c (mono d) := by
  unfold monoP
  split
  · rename_i h; rw [h, psc_zero, co_z]
  · rw [co_nrm, show c :: List.replicate d 0 = [c] ++ List.replicate d 0 from rfl, co_append_zeros, ← pshN_pone, ← pshN_psc]
    congr 1
    rw [co_cons, co_nil]; funext i; simp [padd, pzero, psc, mono, pone, zero_add]

theorem Wf_monoP (d : Nat) (c : F) : Wf (monoP d c) := by
  unfold monoP; split
  · exact .inl rfl
  · exact Wf_nrm _

/-- Multiply -/
def mulL (a b : List F) : List F := (List.range (a.length + b.length - 1)).map (conv (hi a) (hi b))
def mulP (a b : List F) : List F := if hi a 0 = 0 ∨ hi b 0 = 0 then [0] else nrm (mulL a b)

def conv2 (la lb : Nat) (p q : Po) (n : Nat) : F := sm la (fun i => sm lb (fun j => if i + j = n then p i * q j else 0))

theorem conv_conv2 {la lb : Nat} {p q : Po} (hp : Bd la p) (hq : Bd lb q) (n : Nat) : conv p q n = conv2 la lb p q n := by
  have h1 : ∀ i, sm lb (fun j => if i + j = n then p i * q j else 0) = if i ≤ n then p i * q (n - i) else 0 := by
    intro i
    by_cases hi : i ≤ n
    · rw [if_pos hi]
      by_cases hj : n - i < lb
      · rw [sm_single (k := n - i) _ hj (fun j _ hne => if_neg (by omega)), if_pos (by omega)]
      · rw [sm_eq_zero (fun j hj' => if_neg (by omega)), hq (n - i) (by omega), mul_zero]
    · rw [if_neg hi]; exact sm_eq_zero (fun j _ => if_neg (by omega))
  unfold conv2 conv
  rw [sm_congr (fun i _ => h1 i)]
  rcases Nat.le_total la (n + 1) with h | h
  · rw [sm_ext _ h (fun i h2 _ => by rw [hp i h2, zero_mul])]
    exact sm_congr fun i hi => by rw [if_pos (by omega)]
  · rw [sm_ext (n := n + 1) (m := la) _ h (fun i h2 _ => if_neg (by omega))]
    exact sm_congr fun i hi => by rw [if_pos (by omega)]

theorem co_mulL (a b : List F) (ha : 0 < a.length) (hb : 0 < b.length) : co (mulL a b) = conv (co a) (co b) := by
  funext d
  have hl : (mulL a b).length = a.length + b.length - 1 := by simp [mulL]
  rw [co_get, hl]
  by_cases h : d < a.length + b.length - 1
  · rw [if_pos h]
    unfold mulL
    rw [hi_map _ _ _ (by omega), conv_conv2 (hi_bd a) (hi_bd b), conv_conv2 (co_bd a) (co_bd b)]
    unfold conv2
    rw [sm_rev]
    refine sm_congr fun i hi' => ?_
    rw [sm_rev]
    refine sm_congr fun j hj => ?_
    rw [co_get, co_get, if_pos hi', if_pos hj]
    by_cases hs : i + j = d
    · rw [if_pos hs, if_pos (by omega)]
    · rw [if_neg hs, if_neg (by omega)]
  · rw [if_neg h, Bd.conv (co_bd a) (co_bd b) d (by omega)]

theorem co_mulP {a b : List F} (ha : Wf a) (hb : Wf b) : co (mulP a b) = conv (co a) (co b) := by
  unfold mulP
  split
  · rename_i h
    rcases h with h | h
    · rw [ha.zero h, co_z, pzero_conv]
    · rw [hb.zero h, co_z, conv_pzero]
  · rw [co_nrm, co_mulL _ _ ha.pos hb.pos]

theorem Wf_mulP (a b : List F) : Wf (mulP a b) := by
  unfold mulP; split
  · exact .inl rfl
  · exact Wf_nrm _

/-- MultiplyBy -/
def mulS (l : List F) (c : F) : List F := if c = 0 then [0] else if c = 1 then l else nrm (l.map (· * c))

theorem co_mulS (l : List F) (c : F) : co (mulS l c) = psc c (co l) := by
  unfold mulS
  split
  · rename_i h; rw [h, psc_zero, co_z]
  · split
    · rename_i h; rw [h, psc_one]
    · rw [co_nrm, co_map]

theorem Wf_mulS {l : List F} (h : Wf l) (c : F) : Wf (mulS l c) := by
  unfold mulS; split
  · exact .inl rfl
  · split
    · exact h
    · exact Wf_nrm _

/-- EvaluateAt -/
def hrn (a : F) (l : List F) : F := l.foldl (fun r c => a * r + c) 0

theorem hrn_snoc (a : F) (l : List F) (c : F) : hrn a (l ++ [c]) = a * hrn a l + c := by simp [hrn]

theorem hrn_ev (a : F) (l : List F) : hrn a l = ev l.length (co l) a := by
  suffices h : ∀ n (l : List F), l.length = n → hrn a l = ev l.length (co l) a from h _ l rfl
  intro n
  induction n with
  | zero => intro l hl; rw [List.length_eq_zero_iff.1 hl]; rfl
  | succ n ih =>
    intro l hl
    have hne : l ≠ [] := fun h => by rw [h] at hl; simp at hl
    rw [← List.dropLast_concat_getLast hne]
    rw [hrn_snoc, co_snoc, List.length_append, List.length_singleton, ev_add, ev_psc, ev_psh, ih _ (by simp [hl]), ev_pone _ (by omega), mul_one, add_comm]

/-! Euclid's steps -/

/-- the state of the division of rLL by rL -/
structure DInv (rLL rL r q : List F) : Prop where
  wr : Wf r
  wq : Wf q
  eq : co r = padd (co rLL) (conv (co q) (co rL))
  bq : Bd (rLL.length - rL.length + 1) (co q)
  br : r.length ≤ rLL.length

theorem DInv.start {rLL rL : List F} (h : Wf rLL) : DInv rLL rL rLL [0] :=
  ⟨h, .inl rfl, by rw [co_z, pzero_conv, padd_zero], by rw [co_z]; intro i _; rfl, Nat.le_refl _⟩

theorem mono_conv (d : Nat) (p : Po) : conv (mono d) p = pshN d p := by
  rw [← pshN_pone, conv_comm, conv_pshN, conv_pone]

theorem hi_zero_cons (a : F) (l : List F) : hi (a :: l) 0 = a := rfl

theorem pshN_bd {d n : Nat} {p : Po} (h : Bd d p) : Bd (n + d) (pshN n p) := fun i hi => by
  rw [pshN_get]; split
  · rfl
  · exact h _ (by omega)

/-- one step of the division: the leading term goes -/
theorem DInv.step {rLL rL r q : List F} (h : DInv rLL rL r q) (hL : Wf rL) (hL1 : 1 < rL.length) (hle : rL.length ≤ r.length)
    {s : F} (hs : s = hi r 0 * (hi rL 0).inv) :
    DInv rLL rL (addP r (mulMono rL (r.length - rL.length) s)) (addP q (monoP (r.length - rL.length) s)) ∧
      (addP r (mulMono rL (r.length - rL.length) s)).length < r.length := by
  have hw2 := Wf_mulMono rL (r.length - rL.length) s
  have heq : co (addP r (mulMono rL (r.length - rL.length) s)) = padd (co r) (psc s (pshN (r.length - rL.length) (co rL))) := by
    rw [co_addP h.wr hw2, co_mulMono]
  have hr1 : 1 < r.length := by omega
  have hlen : (addP r (mulMono rL (r.length - rL.length) s)).length < r.length := by
    have hb : Bd (r.length - 1) (co (addP r (mulMono rL (r.length - rL.length) s))) := by
      intro i hi'
      rw [heq]
      show co r i + s * pshN _ (co rL) i = 0
      by_cases hi2 : i = r.length - 1
      · subst hi2
        have e1 : co r (r.length - 1) = hi r 0 := by rw [co_get, if_pos (by omega), Nat.sub_self]
        have e2 : pshN (r.length - rL.length) (co rL) (r.length - 1) = hi rL 0 := by
          rw [pshN_get, if_neg (by omega), co_get, if_pos (by omega)]; congr 1; omega
        rw [e1, e2, hs]
        have hne : hi rL 0 ≠ 0 := fun h0 => by rw [hL.zero h0] at hL1; simp at hL1
        rw [mul_assoc, inv_mul hne, mul_one, add_self]
      · rw [co_bd r i (by omega), pshN_bd (co_bd rL) i (by omega), mul_zero, add_zero]
    have := (Wf_addP h.wr hw2).len_le (by omega) hb
    omega
  refine ⟨⟨Wf_addP h.wr hw2, Wf_addP h.wq (Wf_monoP _ _), ?_, ?_, ?_⟩, hlen⟩
  · rw [heq, co_addP h.wq (Wf_monoP _ _), co_monoP, h.eq, add_conv, psc_conv, mono_conv, padd_assoc]
  · rw [co_addP h.wq (Wf_monoP _ _), co_monoP]
    refine Bd.add h.bq ?_
    intro i hi'
    show s * mono _ i = 0
    have := h.br
    unfold mono
    rw [if_neg (by omega), mul_zero]
  · have := h.br; omega

/-- the state of Euclid's algorithm -/
structure EInv (n : Nat) (S : Po) (rL r tL t : List F) : Prop where
  wrL : Wf rL
  wr : Wf r
  wtL : Wf tL
  wt : Wf t
  h1 : Mo n (conv (co t) S) (co r)
  h2 : Mo n (conv (co tL) S) (co rL)
  h3 : padd (conv (co rL) (co t)) (conv (co r) (co tL)) = mono n
  hlt : r.length < rL.length
  hn : rL.length ≤ n + 1
  hbt : Bd (n - (rL.length - 1) + 1) (co t)
  hbtL : Bd (n - (rL.length - 1) + 1) (co tL)

theorem EInv.start {n : Nat} {s : List F} (hw : Wf s) (hl : s.length ≤ n) : EInv n (co s) (monoP n 1) s [0] [1] := by
  have hm : monoP n 1 = 1 :: List.replicate n 0 := by
    unfold monoP nrm; rw [if_neg one_ne, List.dropWhile_cons_of_neg (by simpa using one_ne)]
  have hlm : (monoP n 1).length = n + 1 := by rw [hm]; simp
  refine ⟨Wf_monoP _ _, hw, .inl rfl, .inr ⟨1, [], rfl, one_ne⟩, ?_, ?_, ?_, ?_, ?_, ?_, ?_⟩
  · rw [co_o, pone_conv]; exact Mo.refl _ _
  · rw [co_z, pzero_conv, co_monoP]
    intro i hi; simp [pzero, psc, mono, one_mul]; intro h; omega
  · rw [co_o, co_z, conv_pone, conv_pzero, padd_zero, co_monoP, psc_one]
  · omega
  · omega
  · rw [co_o]; intro i hi; unfold pone; rw [if_neg (by omega)]
  · rw [co_z]; intro i _; rfl

theorem EInv.step {n : Nat} {S : Po} {rL r tL t r' q : List F} (h : EInv n S rL r tL t) (hr : 1 < r.length) (hd : DInv rL r r' q) (hlt : r'.length < r.length) :
    EInv n S r r' t (addP (mulP q t) tL) := by
  have hco : co (addP (mulP q t) tL) = padd (conv (co q) (co t)) (co tL) := by
    rw [co_addP (Wf_mulP _ _) h.wtL, co_mulP hd.wq h.wt]
  refine ⟨h.wr, hd.wr, h.wt, Wf_addP (Wf_mulP _ _) h.wtL, ?_, h.h1, ?_, hlt, ?_, ?_, ?_⟩
  · rw [hco, add_conv, hd.eq, conv_assoc, padd_comm]
    exact Mo.add h.h2 (Mo.conv (Mo.refl _ _) h.h1)
  · rw [hco, hd.eq, conv_add, add_conv, ← h.h3, conv_left_comm (co r) (co q), conv_assoc (co q)]
    funext i
    show (_ + _) + (_ + _) = _ + _
    rw [add_comm (conv (co q) _ i), add_assoc, add_comm (conv (co rL) (co t) i), add_self_left, add_comm]
  · have := h.hlt; have := h.hn; omega
  · rw [hco]
    have := h.hlt; have := h.hn
    refine Bd.add ((Bd.conv hd.bq h.hbt).mono ?_) (h.hbtL.mono (by omega))
    omega
  · have := h.hlt; have := h.hn
    exact h.hbt.mono (by omega)

/-- where Euclid's steps end -/
theorem EInv.ends {n : Nat} {S : Po} {rL r tL t : List F} (h : EInv n S rL r tL t) {l : Er} (hg : Good l) (hv : 2 * l.length ≤ n) (hS : Mo n S (Sy l))
    (hL : n ≤ 2 * (rL.length - 1)) (hr : 2 * (r.length - 1) < n) :
    ∃ c, c ≠ 0 ∧ co t = psc c (Lam l) ∧ co r = psc c (Om l) := by
  have hp := h.wr.pos
  have hn := h.hn
  exact euclid_ends hg hv (dt := n - (rL.length - 1)) (dr := r.length - 1) (e := rL.length + tL.length) hS h.hbt
    (by have := co_bd r; rwa [show r.length - 1 + 1 = r.length by omega]) (by omega) hr
    ((co_bd rL).mono (by omega)) ((co_bd tL).mono (by omega)) h.h1 h.h2 h.h3

/-- what is handed back -/
theorem EInv.norm {n : Nat} {S : Po} {rL r tL t : List F} (h : EInv n S rL r tL t) {l : Er} (hg : Good l) (hv : 2 * l.length ≤ n) (hS : Mo n S (Sy l))
    (hL : n ≤ 2 * (rL.length - 1)) (hr : 2 * (r.length - 1) < n) :
    co t 0 ≠ 0 ∧ co (mulS t (co t 0).inv) = Lam l ∧ co (mulS r (co t 0).inv) = Om l := by
  obtain ⟨c, hc, e1, e2⟩ := h.ends hg hv hS hL hr
  have e3 : co t 0 = c := by rw [e1]; show c * Lam l 0 = c; rw [Lam_zero, mul_one]
  rw [co_mulS, co_mulS, e3]
  refine ⟨hc, ?_, ?_⟩
  · rw [e1, psc_psc, inv_mul hc, psc_one]
  · rw [e2, psc_psc, inv_mul hc, psc_one]

end Zx
