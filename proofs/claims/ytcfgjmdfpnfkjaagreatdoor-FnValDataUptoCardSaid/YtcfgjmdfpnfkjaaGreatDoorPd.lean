/- Parts of the proof of the statement that this folder hands in: lemmas and contracts (Pd). -/
set_option linter.unusedSimpArgs false
set_option linter.unusedVariables false
set_option linter.unusedSimpArgs false
namespace Pf

/-- Cells with one cell changed. -/
def upd (D : Nat → Nat) (i x : Nat) : Nat → Nat := fun j => if j = i then x else D j
theorem upd_at (D : Nat → Nat) (i x : Nat) : upd D i x i = x := by simp [upd]
theorem upd_ne (D : Nat → Nat) {i j : Nat} (x : Nat) (h : j ≠ i) : upd D i x j = D j := by simp [upd, h]

/-- A byte that is a digit. -/
def Dg (x : Nat) : Prop := 48 ≤ x ∧ x ≤ 57

/-- How many digits stay where the zeros at the end are struck. -/
def trimN (D : Nat → Nat) : Nat → Nat
  | 0 => 0
  | n + 1 => if D n = 48 then trimN D n else n + 1
theorem trimN_le (D : Nat → Nat) : ∀ n, trimN D n ≤ n
  | 0 => Nat.le_refl 0
  | n + 1 => by
    unfold trimN; split
    · exact Nat.le_trans (trimN_le D n) (Nat.le_succ n)
    · exact Nat.le_refl _
theorem trimN_pos (D : Nat → Nat) (h : D 0 ≠ 48) : ∀ n, 0 < n → 0 < trimN D n
  | n + 1, _ => by
    unfold trimN; split
    · rename_i e
      cases n with
      | zero => exact absurd e h
      | succ m => exact trimN_pos D h (m + 1) (by omega)
    · omega

/-! ## the shift to the right -/

/-- A digit's number; behind the last one: 0. -/
def dg (D : Nat → Nat) (nd i : Nat) : Nat := if i < nd then D i - 48 else 0
/-- The first digits till 2^k is reached: how many, and what they make. -/
def rsA (D : Nat → Nat) (nd k : Nat) : Nat → Nat → Nat → Nat × Nat
  | 0, r, n => (r, n)
  | f + 1, r, n => if 2 ^ k ≤ n then (r, n) else rsA D nd k f (r + 1) (n * 10 + dg D nd r)
/-- A digit taken, a digit put. -/
def rsB (k : Nat) : Nat → Nat → Nat → Nat → (Nat → Nat) → Nat × Nat × (Nat → Nat)
  | 0, _, w, n, D => (w, n, D)
  | c + 1, r, w, n, D => rsB k c (r + 1) (w + 1) (n % 2 ^ k * 10 + (D r - 48)) (upd D w (n / 2 ^ k + 48))
/-- The digits beyond. -/
def rsC (k : Nat) : Nat → Nat → Nat → (Nat → Nat) → Bool → Nat × (Nat → Nat) × Bool
  | 0, w, _, D, t => (w, D, t)
  | f + 1, w, n, D, t =>
    if n = 0 then (w, D, t)
    else if w < 800 then rsC k f (w + 1) (n % 2 ^ k * 10) (upd D w (n / 2 ^ k + 48)) t
    else rsC k f w (n % 2 ^ k * 10) D (t || decide (0 < n / 2 ^ k))

/-- The state of rsA on the way. -/
structure AInv (D : Nat → Nat) (k r n : Nat) : Prop where
  lt : n < 10 * 2 ^ k
  z : r = 0 → n = 0
  o : r = 1 → n = D 0 - 48
  p : 1 ≤ r → 10 ^ (r - 1) ≤ n
theorem AInv.init (D : Nat → Nat) (k : Nat) : AInv D k 0 0 := ⟨by have := Nat.two_pow_pos k; omega, by omega, by omega, by omega⟩
theorem dg_le {D : Nat → Nat} {nd : Nat} (h : ∀ i, i < nd → Dg (D i)) (i : Nat) : dg D nd i ≤ 9 := by
  unfold dg; split
  · have := h i ‹_›; unfold Dg at this; omega
  · omega
theorem AInv.step {D : Nat → Nat} {nd k r n : Nat} (h : AInv D k r n) (hn : 0 < nd) (hD : ∀ i, i < nd → Dg (D i)) (h0 : D 0 ≠ 48) (hlt : n < 2 ^ k) : AInv D k (r + 1) (n * 10 + dg D nd r) := by
  have hd := dg_le hD r
  refine ⟨by omega, by omega, fun e => ?_, fun _ => ?_⟩
  · obtain rfl : r = 0 := by omega
    have := h.z rfl
    subst this
    simp [dg, hn]
  · by_cases hr : r = 0
    · subst hr
      have := hD 0 hn
      unfold Dg at this
      simp [dg, hn]; omega
    · have := h.p (by omega)
      have e : 10 ^ (r + 1 - 1) = 10 ^ (r - 1) * 10 := by rw [← Nat.pow_succ]; congr 1; omega
      omega
theorem AInv.bound {D : Nat → Nat} {k r n : Nat} (h : AInv D k r n) (hk : k ≤ 60) : r ≤ 20 := by
  by_cases hr : 21 ≤ r
  · have h1 := h.p (by omega)
    have h2 := h.lt
    have h3 : 2 ^ k ≤ 2 ^ 60 := Nat.pow_le_pow_right (by omega) hk
    have h4 : 10 ^ 20 ≤ 10 ^ (r - 1) := Nat.pow_le_pow_right (by omega) (by omega)
    omega
  · omega
theorem rsA_ok {D : Nat → Nat} {nd k : Nat} (hk : k ≤ 60) (hn : 0 < nd) (hD : ∀ i, i < nd → Dg (D i)) (h0 : D 0 ≠ 48) :
    ∀ f r n, AInv D k r n → f + r = 21 → AInv D k (rsA D nd k f r n).1 (rsA D nd k f r n).2 ∧ 2 ^ k ≤ (rsA D nd k f r n).2
  | 0, r, n, h, e => by have := h.bound hk; omega
  | f + 1, r, n, h, e => by
    unfold rsA
    split
    · exact ⟨h, ‹_›⟩
    · exact rsA_ok hk hn hD h0 f _ _ (h.step hn hD h0 (by omega)) (by omega)

theorem div_lt_ten {n k : Nat} (h : n < 10 * 2 ^ k) : n / 2 ^ k ≤ 9 := by
  have := (Nat.div_lt_iff_lt_mul (Nat.two_pow_pos k)).2 h
  omega
theorem rest_lt {n k d : Nat} (hd : d ≤ 9) : n % 2 ^ k * 10 + d < 10 * 2 ^ k := by
  have := Nat.mod_lt n (Nat.two_pow_pos k)
  omega

/-- What stands in the cells while the shift goes on. -/
structure BInv (k nd r w n : Nat) (D : Nat → Nat) : Prop where
  lt : n < 10 * 2 ^ k
  wr : w < r
  put : ∀ i, i < w → Dg (D i)
  rest : ∀ i, r ≤ i → i < nd → Dg (D i)
theorem BInv.step {k nd r w n : Nat} {D : Nat → Nat} (h : BInv k nd r w n D) (hr : r < nd) : BInv k nd (r + 1) (w + 1) (n % 2 ^ k * 10 + (D r - 48)) (upd D w (n / 2 ^ k + 48)) := by
  have hd := h.rest r (Nat.le_refl _) hr
  have h9 := div_lt_ten h.lt
  unfold Dg at hd
  refine ⟨rest_lt (by omega), by have := h.wr; omega, fun i hi => ?_, fun i hi hn => ?_⟩
  · by_cases e : i = w
    · subst e; rw [upd_at]; unfold Dg; generalize n / 2 ^ k = q at h9; omega
    · rw [upd_ne _ _ e]; exact h.put i (by omega)
  · rw [upd_ne _ _ (by have := h.wr; omega)]; exact h.rest i (by omega) hn
theorem rsB_ok {k nd : Nat} : ∀ c r w n D, BInv k nd r w n D → r + c = nd → (rsB k c r w n D).1 = w + c ∧ (rsB k c r w n D).2.1 < 10 * 2 ^ k ∧
    (∀ i, i < w + c → Dg ((rsB k c r w n D).2.2 i)) ∧ (0 < w → (rsB k c r w n D).2.2 0 = D 0) ∧ (w = 0 → 0 < c → (rsB k c r w n D).2.2 0 = n / 2 ^ k + 48) ∧ (c = 0 → (rsB k c r w n D) = (w, n, D))
  | 0, r, w, n, D, h, e => by
    refine ⟨rfl, h.lt, fun i hi => h.put i hi, fun _ => rfl, fun _ h => absurd h (by omega), fun _ => rfl⟩
  | c + 1, r, w, n, D, h, e => by
    obtain ⟨h1, h2, h3, h4, h5, h6⟩ := rsB_ok c (r + 1) (w + 1) _ _ (h.step (by omega)) (by omega)
    unfold rsB
    refine ⟨by omega, h2, fun i hi => h3 i (by omega), fun hw => ?_, fun hw _ => ?_, fun hc => absurd hc (by omega)⟩
    · rw [h4 (by omega), upd_ne _ _ (by omega)]
    · subst hw; rw [h4 (by omega), upd_at]

/-- The state of rsC on the way. -/
structure CInv (k f w n : Nat) (D : Nat → Nat) : Prop where
  lt : n < 10 * 2 ^ k
  w8 : w ≤ 800
  put : ∀ i, i < w → Dg (D i)
  dvd : n = 0 ∨ ∃ j, j ≤ k ∧ j + f = k + 1 ∧ 2 ^ j ∣ n
theorem CInv.zero {k w n : Nat} {D : Nat → Nat} (h : CInv k 0 w n D) : n = 0 := by
  rcases h.dvd with h0 | ⟨j, hj, hf, _⟩
  · exact h0
  · omega
theorem CInv.next {k f w n : Nat} {D : Nat → Nat} (h : CInv k (f + 1) w n D) (hn : n ≠ 0) : n % 2 ^ k * 10 = 0 ∨ ∃ j, j ≤ k ∧ j + f = k + 1 ∧ 2 ^ j ∣ n % 2 ^ k * 10 := by
  rcases h.dvd with h0 | ⟨j, hj, hf, hd⟩
  · exact absurd h0 hn
  · by_cases e : j = k
    · subst e
      left
      rw [Nat.mod_eq_zero_of_dvd hd]
    · right
      refine ⟨j + 1, by omega, by omega, ?_⟩
      have h1 : 2 ^ j ∣ n % 2 ^ k := (Nat.dvd_mod_iff (Nat.pow_dvd_pow 2 (by omega))).2 hd
      obtain ⟨q, hq⟩ := h1
      exact ⟨q * 5, by rw [hq, Nat.pow_succ, Nat.mul_assoc, Nat.mul_assoc]; congr 1; omega⟩
theorem CInv.step {k f w n : Nat} {D : Nat → Nat} (h : CInv k (f + 1) w n D) (hn : n ≠ 0) (hw : w < 800) : CInv k f (w + 1) (n % 2 ^ k * 10) (upd D w (n / 2 ^ k + 48)) := by
  refine ⟨rest_lt (Nat.zero_le 9), hw, fun i hi => ?_, h.next hn⟩
  by_cases e : i = w
  · subst e; rw [upd_at]; have h9 := div_lt_ten h.lt; unfold Dg; generalize n / 2 ^ k = q at h9; omega
  · rw [upd_ne _ _ e]; exact h.put i (by omega)
theorem CInv.skip {k f w n : Nat} {D : Nat → Nat} (h : CInv k (f + 1) w n D) (hn : n ≠ 0) : CInv k f w (n % 2 ^ k * 10) D :=
  ⟨rest_lt (Nat.zero_le 9), h.w8, h.put, h.next hn⟩
theorem rsC_ok {k : Nat} : ∀ f w n D t, CInv k f w n D → (rsC k f w n D t).1 ≤ 800 ∧ w ≤ (rsC k f w n D t).1 ∧ (∀ i, i < (rsC k f w n D t).1 → Dg ((rsC k f w n D t).2.1 i)) ∧
    (0 < w → (rsC k f w n D t).2.1 0 = D 0) ∧ (w = 0 → 2 ^ k ≤ n → f ≠ 0 → 0 < (rsC k f w n D t).1 ∧ (rsC k f w n D t).2.1 0 = n / 2 ^ k + 48)
  | 0, w, n, D, t, h => ⟨h.w8, Nat.le_refl _, h.put, fun _ => rfl, fun _ _ h => absurd rfl h⟩
  | f + 1, w, n, D, t, h => by
    unfold rsC
    have hp := Nat.two_pow_pos k
    by_cases hn : n = 0
    · rw [if_pos hn]
      exact ⟨h.w8, Nat.le_refl _, h.put, fun _ => rfl, fun _ h1 _ => by omega⟩
    · rw [if_neg hn]
      by_cases hw : w < 800
      · rw [if_pos hw]
        obtain ⟨h1, h2, h3, h4, -⟩ := rsC_ok f (w + 1) _ _ t (h.step hn hw)
        refine ⟨h1, by omega, h3, fun h0 => ?_, fun h0 _ _ => ⟨by omega, ?_⟩⟩
        · rw [h4 (by omega), upd_ne _ _ (by omega)]
        · subst h0; rw [h4 (by omega), upd_at]
      · rw [if_neg hw]
        obtain ⟨h1, h2, h3, h4, -⟩ := rsC_ok f w _ _ (t || decide (0 < n / 2 ^ k)) (h.skip hn)
        exact ⟨h1, h2, h3, h4, fun h0 => absurd h0 (by omega)⟩

/-- A decimal. -/
structure Dec where
  D : Nat → Nat
  nd : Nat
  dp : Int
  neg : Bool
  tr : Bool
/-- Its digits are digits, and the first one is none. -/
structure Dec.Ok (d : Dec) : Prop where
  n8 : d.nd ≤ 800
  pos : 0 < d.nd
  dig : ∀ i, i < d.nd → Dg (d.D i)
  lead : d.D 0 ≠ 48

/-- THE SHIFT TO THE RIGHT. -/
def shr (d : Dec) (k : Nat) : Dec :=
  let a := rsA d.D d.nd k 21 0 0
  let b := rsB k (d.nd - a.1) a.1 0 a.2 d.D
  let c := rsC k (k + 1) b.1 b.2.1 b.2.2 d.tr
  { D := c.2.1, nd := trimN c.2.1 c.1, dp := d.dp - (a.1 - 1), neg := d.neg, tr := c.2.2 }
/-- What the loops want: how far it is to the end. -/
theorem shr_ok {d : Dec} {k : Nat} (h : d.Ok) (h1 : 1 ≤ k) (hk : k ≤ 60) : (shr d k).Ok ∧ (shr d k).dp ≤ d.dp ∧ d.dp - 20 ≤ (shr d k).dp ∧
    ((shr d k).dp < d.dp ∨ (shr d k).dp = d.dp ∧ (shr d k).D 0 < d.D 0 ∧ 2 ^ k + 48 ≤ d.D 0) := by
  obtain ⟨hA, hA2⟩ := rsA_ok hk h.pos h.dig h.lead 21 0 0 (AInv.init _ _) (by omega)
  have hb := hA.bound hk
  have hr1 : 1 ≤ (rsA d.D d.nd k 21 0 0).1 := by
    by_cases e : (rsA d.D d.nd k 21 0 0).1 = 0
    · have := hA.z e
      have := Nat.two_pow_pos k
      omega
    · omega
  unfold shr
  generalize rsA d.D d.nd k 21 0 0 = a at hA hA2 hb hr1
  obtain ⟨r, n⟩ := a
  simp only at hA hA2 hb hr1 ⊢
  have hlead : ∃ x, x = n / 2 ^ k + 48 ∧ 49 ≤ x := ⟨_, rfl, by have := Nat.div_pos hA2 (Nat.two_pow_pos k); omega⟩
  obtain ⟨x, hx, hx9⟩ := hlead
  have key : ∀ c : Nat × (Nat → Nat) × Bool, c = (let b := rsB k (d.nd - r) r 0 n d.D; rsC k (k + 1) b.1 b.2.1 b.2.2 d.tr) → c.1 ≤ 800 ∧ 0 < c.1 ∧ (∀ i, i < c.1 → Dg (c.2.1 i)) ∧ c.2.1 0 = x := by
    intro c hc
    by_cases hrn : r < d.nd
    · obtain ⟨b1, b2, b3, -, b5, -⟩ := rsB_ok (k := k) (nd := d.nd) (d.nd - r) r 0 n d.D ⟨hA.lt, by omega, fun i hi => absurd hi (by omega), fun i _ hi => h.dig i hi⟩ (by omega)
      have b5' := b5 rfl (by omega)
      generalize rsB k (d.nd - r) r 0 n d.D = b at b1 b2 b3 b5' hc
      have hC : CInv k (k + 1) b.1 b.2.1 b.2.2 := ⟨b2, by have := h.n8; omega, fun i hi => b3 i (by omega), Or.inr ⟨0, by omega, by omega, by simp⟩⟩
      obtain ⟨c1, c2, c3, c4, -⟩ := rsC_ok (k + 1) _ _ _ d.tr hC
      rw [hc]
      exact ⟨c1, Nat.lt_of_lt_of_le (by omega) c2, c3, by rw [c4 (by omega), b5', hx]⟩
    · have e : d.nd - r = 0 := by omega
      rw [e] at hc
      simp only [rsB] at hc
      have hC : CInv k (k + 1) 0 n d.D := ⟨hA.lt, by omega, fun i hi => absurd hi (by omega), Or.inr ⟨0, by omega, by omega, by simp⟩⟩
      obtain ⟨c1, c2, c3, -, c5⟩ := rsC_ok (k + 1) _ _ _ d.tr hC
      obtain ⟨c6, c7⟩ := c5 rfl hA2 (by omega)
      rw [hc]
      exact ⟨c1, c6, c3, by rw [c7, hx]⟩
  obtain ⟨k1, k2, k3, k4⟩ := key _ rfl
  simp only at k1 k2 k3 k4
  refine ⟨⟨Nat.le_trans (trimN_le _ _) k1, trimN_pos _ (by rw [k4]; omega) _ k2, fun i hi => k3 i (Nat.lt_of_lt_of_le hi (trimN_le _ _)), fun e => by have := k4.symm.trans e; omega⟩, by omega, by omega, ?_⟩
  by_cases e : r = 1
  · subst e
    right
    have hn := hA.o rfl
    have : n / 2 ^ k ≤ n / 2 := Nat.div_le_div_left (by have := Nat.pow_le_pow_right (n := 2) (by omega) h1; omega) (by omega)
    have := h.dig 0 h.pos
    unfold Dg at this
    have := Nat.two_pow_pos k
    exact ⟨by omega, Nat.lt_of_le_of_lt (Nat.le_of_eq k4) (by omega), by omega⟩
  · left; omega

/-! ## the shift to the left -/

/-- Are the digits, as a text, below a text? -/
def plt (D : Nat → Nat) (nd : Nat) : List Nat → Nat → Bool
  | [], _ => false
  | x :: c, i => if nd ≤ i then true else if D i = x then plt D nd c (i + 1) else decide (D i < x)
/-- What digits make. -/
def tl (D : Nat → Nat) : Nat → Nat → Nat
  | 0, _ => 0
  | c + 1, i => (D i - 48) * 10 ^ c + tl D c (i + 1)
def cval : List Nat → Nat
  | [] => 0
  | x :: c => (x - 48) * 10 ^ c.length + cval c
theorem cval_lt : ∀ c : List Nat, (∀ x ∈ c, Dg x) → cval c < 10 ^ c.length
  | [], _ => by simp [cval]
  | x :: c, h => by
    have := cval_lt c fun y hy => h y (by simp [hy])
    have hx := h x (by simp)
    unfold Dg at hx
    simp only [cval, List.length_cons, Nat.pow_succ]
    have : (x - 48) * 10 ^ c.length ≤ 9 * 10 ^ c.length := Nat.mul_le_mul_right _ (by omega)
    omega
theorem tl_lt {D : Nat → Nat} : ∀ c i, (∀ j, i ≤ j → j < i + c → Dg (D j)) → tl D c i < 10 ^ c
  | 0, _, _ => by simp [tl]
  | c + 1, i, h => by
    have := tl_lt c (i + 1) fun j h1 h2 => h j (by omega) (by omega)
    have hx := h i (by omega) (by omega)
    unfold Dg at hx
    simp only [tl, Nat.pow_succ]
    have : (D i - 48) * 10 ^ c ≤ 9 * 10 ^ c := Nat.mul_le_mul_right _ (by omega)
    omega
theorem tl_ge {D : Nat → Nat} {n : Nat} (h : Dg (D 0)) (h0 : D 0 ≠ 48) : 10 ^ n ≤ tl D (n + 1) 0 := by
  unfold Dg at h
  simp only [tl]
  have : 1 * 10 ^ n ≤ (D 0 - 48) * 10 ^ n := Nat.mul_le_mul_right _ (by omega)
  omega
theorem mul3 (a b c : Nat) : a * b * c = a * c * b := by rw [Nat.mul_assoc, Nat.mul_comm b c, ← Nat.mul_assoc]
/-- A text below: so is what it makes. -/
theorem plt_true {D : Nat → Nat} {nd : Nat} : ∀ (c : List Nat) (i : Nat), i ≤ nd → (∀ j, j < nd → Dg (D j)) → (∀ x ∈ c, Dg x) → (∀ x, c.getLast? = some x → x ≠ 48) → plt D nd c i = true →
    tl D (nd - i) i * 10 ^ c.length < cval c * 10 ^ (nd - i)
  | [], i, _, _, _, _, h => by simp [plt] at h
  | x :: c, i, hi, hD, hc, hl, h => by
    have hx := hc x (by simp)
    have hc' : ∀ y ∈ c, Dg y := fun y hy => hc y (by simp [hy])
    have hcl := cval_lt c hc'
    unfold plt at h
    unfold Dg at hx
    by_cases hn : nd ≤ i
    · have e : nd - i = 0 := by omega
      rw [e]
      simp only [tl, Nat.zero_mul, Nat.pow_zero, Nat.mul_one]
      -- the text's number is not 0
      have pos : ∀ l : List Nat, (∀ y ∈ l, Dg y) → (∀ y, l.getLast? = some y → y ≠ 48) → l ≠ [] → 0 < cval l := by
        intro l
        induction l with
        | nil => intro _ _ h; exact absurd rfl h
        | cons y l ih =>
          intro h1 h2 _
          simp only [cval]
          cases l with
          | nil =>
            have a := h1 y (by simp)
            have b := h2 y (by simp)
            unfold Dg at a
            simp [cval]; omega
          | cons z l =>
            have := ih (fun v hv => h1 v (by simp [hv])) (fun v hv => h2 v (by rw [List.getLast?_cons_cons]; exact hv)) (by simp)
            omega
      exact pos _ hc hl (by simp)
    · rw [if_neg hn] at h
      obtain ⟨m, hm⟩ : ∃ m, nd - i = m + 1 := ⟨nd - i - 1, by omega⟩
      have hm' : nd - (i + 1) = m := by omega
      have hDi := hD i (by omega)
      unfold Dg at hDi
      have hpl := Nat.pow_pos (n := c.length) (show 0 < 10 by omega)
      have hpm := Nat.pow_pos (n := m) (show 0 < 10 by omega)
      rw [hm]
      simp only [tl, cval, List.length_cons, Nat.pow_succ]
      by_cases e : D i = x
      · rw [if_pos e] at h
        have hcn : c ≠ [] := by rintro rfl; simp [plt] at h
        have := plt_true c (i + 1) (by omega) hD hc' (fun v hv => hl v (by cases c with | nil => exact absurd rfl hcn | cons z l => rw [List.getLast?_cons_cons]; exact hv)) h
        rw [hm'] at this
        rw [e, Nat.add_mul, Nat.add_mul]
        have e1 : (x - 48) * 10 ^ m * (10 ^ c.length * 10) = (x - 48) * 10 ^ c.length * (10 ^ m * 10) := by
          rw [← Nat.mul_assoc, ← Nat.mul_assoc, mul3 (x - 48)]
        rw [e1, ← Nat.mul_assoc (tl D m (i + 1)), ← Nat.mul_assoc (cval c)]
        omega
      · rw [if_neg e] at h
        have hlt : D i < x := of_decide_eq_true h
        have ht := tl_lt (D := D) m (i + 1) fun j h1 h2 => hD j (by omega)
        have h1 : (D i - 48) * 10 ^ m + tl D m (i + 1) < (x - 48) * 10 ^ m := by
          have : (D i - 48 + 1) * 10 ^ m ≤ (x - 48) * 10 ^ m := Nat.mul_le_mul_right _ (by omega)
          rw [Nat.add_mul] at this
          omega
        have h2 : ((D i - 48) * 10 ^ m + tl D m (i + 1)) * (10 ^ c.length * 10) < (x - 48) * 10 ^ m * (10 ^ c.length * 10) := Nat.mul_lt_mul_of_pos_right h1 (by omega)
        have e1 : (x - 48) * 10 ^ m * (10 ^ c.length * 10) = (x - 48) * 10 ^ c.length * (10 ^ m * 10) := by
          rw [← Nat.mul_assoc, ← Nat.mul_assoc, mul3 (x - 48)]
        rw [Nat.add_mul ((x - 48) * 10 ^ c.length)]
        omega
theorem plt_false {D : Nat → Nat} {nd : Nat} : ∀ (c : List Nat) (i : Nat), i ≤ nd → (∀ j, j < nd → Dg (D j)) → (∀ x ∈ c, Dg x) → plt D nd c i = false →
    cval c * 10 ^ (nd - i) ≤ tl D (nd - i) i * 10 ^ c.length
  | [], i, _, _, _, h => by simp [cval]
  | x :: c, i, hi, hD, hc, h => by
    have hx := hc x (by simp)
    have hc' : ∀ y ∈ c, Dg y := fun y hy => hc y (by simp [hy])
    have hcl := cval_lt c hc'
    unfold plt at h
    unfold Dg at hx
    by_cases hn : nd ≤ i
    · rw [if_pos hn] at h; cases h
    · rw [if_neg hn] at h
      obtain ⟨m, hm⟩ : ∃ m, nd - i = m + 1 := ⟨nd - i - 1, by omega⟩
      have hm' : nd - (i + 1) = m := by omega
      have hDi := hD i (by omega)
      unfold Dg at hDi
      have hpl := Nat.pow_pos (n := c.length) (show 0 < 10 by omega)
      have hpm := Nat.pow_pos (n := m) (show 0 < 10 by omega)
      rw [hm]
      simp only [tl, cval, List.length_cons, Nat.pow_succ]
      have e1 : ∀ y, (y - 48) * 10 ^ m * (10 ^ c.length * 10) = (y - 48) * 10 ^ c.length * (10 ^ m * 10) := fun y => by
        rw [← Nat.mul_assoc, ← Nat.mul_assoc, mul3 (y - 48)]
      by_cases e : D i = x
      · rw [if_pos e] at h
        have := plt_false c (i + 1) (by omega) hD hc' h
        rw [hm'] at this
        rw [e, Nat.add_mul, Nat.add_mul, e1, ← Nat.mul_assoc (tl D m (i + 1)), ← Nat.mul_assoc (cval c)]
        omega
      · rw [if_neg e] at h
        have hlt : ¬ D i < x := of_decide_eq_false h
        have h1 : (x - 48) * 10 ^ c.length + cval c ≤ (D i - 48) * 10 ^ c.length := by
          have : (x - 48 + 1) * 10 ^ c.length ≤ (D i - 48) * 10 ^ c.length := Nat.mul_le_mul_right _ (by omega)
          rw [Nat.add_mul] at this
          omega
        have h2 : ((x - 48) * 10 ^ c.length + cval c) * (10 ^ m * 10) ≤ (D i - 48) * 10 ^ c.length * (10 ^ m * 10) := Nat.mul_le_mul_right _ h1
        rw [Nat.add_mul ((D i - 48) * 10 ^ m), e1]
        omega

/-- The digits from the last one on, each times 2^k. -/
def lsA (k dl : Nat) : Nat → Nat → (Nat → Nat) → Bool → Nat × (Nat → Nat) × Bool
  | 0, n, D, t => (n, D, t)
  | r + 1, n, D, t =>
    if r + dl < 800 then lsA k dl r ((n + (D r - 48) * 2 ^ k) / 10) (upd D (r + dl) ((n + (D r - 48) * 2 ^ k) % 10 + 48)) t
    else lsA k dl r ((n + (D r - 48) * 2 ^ k) / 10) D (t || decide ((n + (D r - 48) * 2 ^ k) % 10 ≠ 0))
/-- The digits ahead of these. -/
def lsB : Nat → Nat → (Nat → Nat) → Bool → (Nat → Nat) × Bool
  | 0, _, D, t => (D, t)
  | w + 1, n, D, t =>
    if n = 0 then (D, t)
    else if w < 800 then lsB w (n / 10) (upd D w (n % 10 + 48)) t
    else lsB w (n / 10) D (t || decide (n % 10 ≠ 0))

/-- What lsA keeps: n, and the digits. -/
structure LInv (E : Nat → Nat) (k dl nd r n : Nat) (D : Nat → Nat) : Prop where
  num0 : n = tl E (nd - r) r * 2 ^ k / 10 ^ (nd - r)
  old : ∀ i, i < r → D i = E i
  put : ∀ i, r + dl ≤ i → i < nd + dl → i < 800 → Dg (D i)
  last : r = 0 → dl = 0 → ∃ m, n = m / 10 ∧ D 0 = m % 10 + 48 ∧ (E 0 - 48) * 2 ^ k ≤ m
theorem LInv.init (E : Nat → Nat) (k dl nd : Nat) (h : 0 < nd) : LInv E k dl nd nd 0 E := ⟨by simp [tl], fun _ _ => rfl, fun i h1 h2 => by omega, fun e => by omega⟩
theorem LInv.num {E : Nat → Nat} {k dl nd r n : Nat} {D : Nat → Nat} (h : LInv E k dl nd (r + 1) n D) (hr : r < nd) : (n + (D r - 48) * 2 ^ k) / 10 = tl E (nd - r) r * 2 ^ k / 10 ^ (nd - r) := by
  obtain ⟨m, hm⟩ : ∃ m, nd - r = m + 1 := ⟨nd - r - 1, by omega⟩
  have hm' : nd - (r + 1) = m := by omega
  have hp := Nat.pow_pos (n := m) (show 0 < 10 by omega)
  rw [h.old r (by omega), hm, h.num0, hm']
  simp only [tl]
  rw [Nat.pow_succ, ← Nat.div_div_eq_div_mul, Nat.add_mul, mul3, Nat.add_comm ((E r - 48) * 2 ^ k * 10 ^ m), Nat.add_mul_div_right _ _ hp]
theorem LInv.step {E : Nat → Nat} {k dl nd r n : Nat} {D : Nat → Nat} (h : LInv E k dl nd (r + 1) n D) (hr : r < nd) : LInv E k dl nd r ((n + (D r - 48) * 2 ^ k) / 10) (upd D (r + dl) ((n + (D r - 48) * 2 ^ k) % 10 + 48)) := by
  refine ⟨h.num hr, fun i hi => ?_, fun i h1 h2 h3 => ?_, fun e e2 => ?_⟩
  · rw [upd_ne _ _ (by omega)]; exact h.old i (by omega)
  rotate_left
  · subst e e2
    exact ⟨_, rfl, upd_at _ _ _, by rw [h.old 0 (by omega)]; omega⟩
  · by_cases e : i = r + dl
    · subst e; rw [upd_at]; unfold Dg; omega
    · rw [upd_ne _ _ e]; exact h.put i (by omega) h2 h3
theorem LInv.skip {E : Nat → Nat} {k dl nd r n : Nat} {D : Nat → Nat} (h : LInv E k dl nd (r + 1) n D) (hr : r < nd) (h8 : ¬ r + dl < 800) : LInv E k dl nd r ((n + (D r - 48) * 2 ^ k) / 10) D := by
  exact ⟨h.num hr, fun i hi => h.old i (by omega), fun i h1 h2 h3 => by omega, fun e e2 => by omega⟩
theorem lsA_ok {E : Nat → Nat} {k dl nd : Nat} : ∀ r n D t, r ≤ nd → LInv E k dl nd r n D → LInv E k dl nd 0 (lsA k dl r n D t).1 (lsA k dl r n D t).2.1
  | 0, n, D, t, _, h => h
  | r + 1, n, D, t, hr, h => by
    unfold lsA
    by_cases h8 : r + dl < 800
    · rw [if_pos h8]; exact lsA_ok r _ _ _ (by omega) (h.step (by omega))
    · rw [if_neg h8]; exact lsA_ok r _ _ _ (by omega) (h.skip (by omega) h8)

theorem lsB_ok : ∀ w n D t, n < 10 ^ w → (0 < w → 10 ^ (w - 1) ≤ n) → w ≤ 800 → (∀ i, i < w → Dg ((lsB w n D t).1 i)) ∧ (0 < w → (lsB w n D t).1 0 ≠ 48) ∧ ∀ i, w ≤ i → (lsB w n D t).1 i = D i
  | 0, n, D, t, _, _, _ => ⟨fun i h => absurd h (by omega), fun h => absurd h (by omega), fun _ _ => rfl⟩
  | w + 1, n, D, t, h1, h2, h3 => by
    have hp := Nat.pow_pos (n := w) (show 0 < 10 by omega)
    have hn : n ≠ 0 := by have := h2 (by omega); simp only [Nat.add_sub_cancel] at this; omega
    unfold lsB
    rw [if_neg hn, if_pos (by omega)]
    have h1' : n / 10 < 10 ^ w := by rw [Nat.pow_succ] at h1; omega
    have h2' : 0 < w → 10 ^ (w - 1) ≤ n / 10 := fun hw => by
      have := h2 (by omega)
      simp only [Nat.add_sub_cancel] at this
      obtain ⟨v, rfl⟩ : ∃ v, w = v + 1 := ⟨w - 1, by omega⟩
      rw [Nat.pow_succ] at this
      simp only [Nat.add_sub_cancel]
      omega
    obtain ⟨a, b, c⟩ := lsB_ok w (n / 10) (upd D w (n % 10 + 48)) t h1' h2' (by omega)
    refine ⟨fun i hi => ?_, fun _ => ?_, fun i hi => ?_⟩
    · by_cases e : i = w
      · subst e; rw [c i (Nat.le_refl _), upd_at]; unfold Dg; omega
      · exact a i (by omega)
    · by_cases hw : 0 < w
      · exact b hw
      · obtain rfl : w = 0 := by omega
        rw [c 0 (Nat.le_refl _), upd_at]
        simp at h1
        omega
    · rw [c i (by omega), upd_ne _ _ (by omega)]

/-- How many digits more 2^k makes, and from which text on. -/
def cheats : List (Nat × List Nat) := [(0, []), (1, [53]), (1, [50, 53]), (1, [49, 50, 53]), (2, [54, 50, 53]), (2, [51, 49, 50, 53]), (2, [49, 53, 54, 50, 53]), (3, [55, 56, 49, 50, 53]), (3, [51, 57, 48, 54, 50, 53]), (3, [49, 57, 53, 51, 49, 50, 53]), (4, [57, 55, 54, 53, 54, 50, 53]), (4, [52, 56, 56, 50, 56, 49, 50, 53]), (4, [50, 52, 52, 49, 52, 48, 54, 50, 53]), (4, [49, 50, 50, 48, 55, 48, 51, 49, 50, 53]), (5, [54, 49, 48, 51, 53, 49, 53, 54, 50, 53]), (5, [51, 48, 53, 49, 55, 53, 55, 56, 49, 50, 53]), (5, [49, 53, 50, 53, 56, 55, 56, 57, 48, 54, 50, 53]), (6, [55, 54, 50, 57, 51, 57, 52, 53, 51, 49, 50, 53]), (6, [51, 56, 49, 52, 54, 57, 55, 50, 54, 53, 54, 50, 53]), (6, [49, 57, 48, 55, 51, 52, 56, 54, 51, 50, 56, 49, 50, 53]), (7, [57, 53, 51, 54, 55, 52, 51, 49, 54, 52, 48, 54, 50, 53]), (7, [52, 55, 54, 56, 51, 55, 49, 53, 56, 50, 48, 51, 49, 50, 53]), (7, [50, 51, 56, 52, 49, 56, 53, 55, 57, 49, 48, 49, 53, 54, 50, 53]), (7, [49, 49, 57, 50, 48, 57, 50, 56, 57, 53, 53, 48, 55, 56, 49, 50, 53]), (8, [53, 57, 54, 48, 52, 54, 52, 52, 55, 55, 53, 51, 57, 48, 54, 50, 53]), (8, [50, 57, 56, 48, 50, 51, 50, 50, 51, 56, 55, 54, 57, 53, 51, 49, 50, 53]), (8, [49, 52, 57, 48, 49, 49, 54, 49, 49, 57, 51, 56, 52, 55, 54, 53, 54, 50, 53]), (9, [55, 52, 53, 48, 53, 56, 48, 53, 57, 54, 57, 50, 51, 56, 50, 56, 49, 50, 53]), (9, [51, 55, 50, 53, 50, 57, 48, 50, 57, 56, 52, 54, 49, 57, 49, 52, 48, 54, 50, 53]), (9, [49, 56, 54, 50, 54, 52, 53, 49, 52, 57, 50, 51, 48, 57, 53, 55, 48, 51, 49, 50, 53]), (10, [57, 51, 49, 51, 50, 50, 53, 55, 52, 54, 49, 53, 52, 55, 56, 53, 49, 53, 54, 50, 53]), (10, [52, 54, 53, 54, 54, 49, 50, 56, 55, 51, 48, 55, 55, 51, 57, 50, 53, 55, 56, 49, 50, 53]), (10, [50, 51, 50, 56, 51, 48, 54, 52, 51, 54, 53, 51, 56, 54, 57, 54, 50, 56, 57, 48, 54, 50, 53]), (10, [49, 49, 54, 52, 49, 53, 51, 50, 49, 56, 50, 54, 57, 51, 52, 56, 49, 52, 52, 53, 51, 49, 50, 53]), (11, [53, 56, 50, 48, 55, 54, 54, 48, 57, 49, 51, 52, 54, 55, 52, 48, 55, 50, 50, 54, 53, 54, 50, 53]), (11, [50, 57, 49, 48, 51, 56, 51, 48, 52, 53, 54, 55, 51, 51, 55, 48, 51, 54, 49, 51, 50, 56, 49, 50, 53]), (11, [49, 52, 53, 53, 49, 57, 49, 53, 50, 50, 56, 51, 54, 54, 56, 53, 49, 56, 48, 54, 54, 52, 48, 54, 50, 53]), (12, [55, 50, 55, 53, 57, 53, 55, 54, 49, 52, 49, 56, 51, 52, 50, 53, 57, 48, 51, 51, 50, 48, 51, 49, 50, 53]), (12, [51, 54, 51, 55, 57, 55, 56, 56, 48, 55, 48, 57, 49, 55, 49, 50, 57, 53, 49, 54, 54, 48, 49, 53, 54, 50, 53]), (12, [49, 56, 49, 56, 57, 56, 57, 52, 48, 51, 53, 52, 53, 56, 53, 54, 52, 55, 53, 56, 51, 48, 48, 55, 56, 49, 50, 53]), (13, [57, 48, 57, 52, 57, 52, 55, 48, 49, 55, 55, 50, 57, 50, 56, 50, 51, 55, 57, 49, 53, 48, 51, 57, 48, 54, 50, 53]), (13, [52, 53, 52, 55, 52, 55, 51, 53, 48, 56, 56, 54, 52, 54, 52, 49, 49, 56, 57, 53, 55, 53, 49, 57, 53, 51, 49, 50, 53]), (13, [50, 50, 55, 51, 55, 51, 54, 55, 53, 52, 52, 51, 50, 51, 50, 48, 53, 57, 52, 55, 56, 55, 53, 57, 55, 54, 53, 54, 50, 53]), (13, [49, 49, 51, 54, 56, 54, 56, 51, 55, 55, 50, 49, 54, 49, 54, 48, 50, 57, 55, 51, 57, 51, 55, 57, 56, 56, 50, 56, 49, 50, 53]), (14, [53, 54, 56, 52, 51, 52, 49, 56, 56, 54, 48, 56, 48, 56, 48, 49, 52, 56, 54, 57, 54, 56, 57, 57, 52, 49, 52, 48, 54, 50, 53]), (14, [50, 56, 52, 50, 49, 55, 48, 57, 52, 51, 48, 52, 48, 52, 48, 48, 55, 52, 51, 52, 56, 52, 52, 57, 55, 48, 55, 48, 51, 49, 50, 53]), (14, [49, 52, 50, 49, 48, 56, 53, 52, 55, 49, 53, 50, 48, 50, 48, 48, 51, 55, 49, 55, 52, 50, 50, 52, 56, 53, 51, 53, 49, 53, 54, 50, 53]), (15, [55, 49, 48, 53, 52, 50, 55, 51, 53, 55, 54, 48, 49, 48, 48, 49, 56, 53, 56, 55, 49, 49, 50, 52, 50, 54, 55, 53, 55, 56, 49, 50, 53]), (15, [51, 53, 53, 50, 55, 49, 51, 54, 55, 56, 56, 48, 48, 53, 48, 48, 57, 50, 57, 51, 53, 53, 54, 50, 49, 51, 51, 55, 56, 57, 48, 54, 50, 53]), (15, [49, 55, 55, 54, 51, 53, 54, 56, 51, 57, 52, 48, 48, 50, 53, 48, 52, 54, 52, 54, 55, 55, 56, 49, 48, 54, 54, 56, 57, 52, 53, 51, 49, 50, 53]), (16, [56, 56, 56, 49, 55, 56, 52, 49, 57, 55, 48, 48, 49, 50, 53, 50, 51, 50, 51, 51, 56, 57, 48, 53, 51, 51, 52, 52, 55, 50, 54, 53, 54, 50, 53]), (16, [52, 52, 52, 48, 56, 57, 50, 48, 57, 56, 53, 48, 48, 54, 50, 54, 49, 54, 49, 54, 57, 52, 53, 50, 54, 54, 55, 50, 51, 54, 51, 50, 56, 49, 50, 53]), (16, [50, 50, 50, 48, 52, 52, 54, 48, 52, 57, 50, 53, 48, 51, 49, 51, 48, 56, 48, 56, 52, 55, 50, 54, 51, 51, 51, 54, 49, 56, 49, 54, 52, 48, 54, 50, 53]), (16, [49, 49, 49, 48, 50, 50, 51, 48, 50, 52, 54, 50, 53, 49, 53, 54, 53, 52, 48, 52, 50, 51, 54, 51, 49, 54, 54, 56, 48, 57, 48, 56, 50, 48, 51, 49, 50, 53]), (17, [53, 53, 53, 49, 49, 49, 53, 49, 50, 51, 49, 50, 53, 55, 56, 50, 55, 48, 50, 49, 49, 56, 49, 53, 56, 51, 52, 48, 52, 53, 52, 49, 48, 49, 53, 54, 50, 53]), (17, [50, 55, 55, 53, 53, 53, 55, 53, 54, 49, 53, 54, 50, 56, 57, 49, 51, 53, 49, 48, 53, 57, 48, 55, 57, 49, 55, 48, 50, 50, 55, 48, 53, 48, 55, 56, 49, 50, 53]), (17, [49, 51, 56, 55, 55, 55, 56, 55, 56, 48, 55, 56, 49, 52, 52, 53, 54, 55, 53, 53, 50, 57, 53, 51, 57, 53, 56, 53, 49, 49, 51, 53, 50, 53, 51, 57, 48, 54, 50, 53]), (18, [54, 57, 51, 56, 56, 57, 51, 57, 48, 51, 57, 48, 55, 50, 50, 56, 51, 55, 55, 54, 52, 55, 54, 57, 55, 57, 50, 53, 53, 54, 55, 54, 50, 54, 57, 53, 51, 49, 50, 53]), (18, [51, 52, 54, 57, 52, 52, 54, 57, 53, 49, 57, 53, 51, 54, 49, 52, 49, 56, 56, 56, 50, 51, 56, 52, 56, 57, 54, 50, 55, 56, 51, 56, 49, 51, 52, 55, 54, 53, 54, 50, 53]), (18, [49, 55, 51, 52, 55, 50, 51, 52, 55, 53, 57, 55, 54, 56, 48, 55, 48, 57, 52, 52, 49, 49, 57, 50, 52, 52, 56, 49, 51, 57, 49, 57, 48, 54, 55, 51, 56, 50, 56, 49, 50, 53]), (19, [56, 54, 55, 51, 54, 49, 55, 51, 55, 57, 56, 56, 52, 48, 51, 53, 52, 55, 50, 48, 53, 57, 54, 50, 50, 52, 48, 54, 57, 53, 57, 53, 51, 51, 54, 57, 49, 52, 48, 54, 50, 53])]
def cheat (k : Nat) : Nat × List Nat := cheats.getD k (0, [])
def cheatOk (k : Nat) : Bool :=
  let c := cheat k
  c.2.all (fun x => decide (48 ≤ x ∧ x ≤ 57)) && decide (c.2.getLast? ≠ some 48) && decide (cval c.2 = 5 ^ k) && decide (c.2.length + c.1 = k + 1) && decide (2 ^ k < 10 ^ c.1) && decide (10 ^ (c.1 - 1) ≤ 2 ^ k) && decide (1 ≤ c.1) && decide (c.1 ≤ 19)
theorem cheats_ok : (List.range 60).all (fun k => cheatOk (k + 1)) = true := by decide +kernel
theorem cheat_ok {k : Nat} (h1 : 1 ≤ k) (hk : k ≤ 60) : (∀ x ∈ (cheat k).2, Dg x) ∧ (∀ x, (cheat k).2.getLast? = some x → x ≠ 48) ∧ cval (cheat k).2 = 5 ^ k ∧ (cheat k).2.length + (cheat k).1 = k + 1 ∧ 2 ^ k < 10 ^ (cheat k).1 ∧
    10 ^ ((cheat k).1 - 1) ≤ 2 ^ k ∧ 1 ≤ (cheat k).1 ∧ (cheat k).1 ≤ 19 := by
  have h := List.all_eq_true.1 cheats_ok (k - 1) (List.mem_range.2 (by omega))
  rw [show k - 1 + 1 = k by omega] at h
  unfold cheatOk at h
  simp only [Bool.and_eq_true, decide_eq_true_eq, List.all_eq_true] at h
  obtain ⟨⟨⟨⟨⟨⟨⟨a, b⟩, c⟩, d⟩, e⟩, f⟩, g⟩, i⟩ := h
  exact ⟨fun x hx => a x hx, fun x hx e => b (by rw [hx, e]), c, d, e, f, g, i⟩

/-- How many digits more there are. -/
def more (D : Nat → Nat) (nd k : Nat) : Nat := if plt D nd (cheat k).2 0 then (cheat k).1 - 1 else (cheat k).1
/-- THE SHIFT TO THE LEFT. -/
def shl (d : Dec) (k : Nat) : Dec :=
  let dl := more d.D d.nd k
  let a := lsA k dl d.nd 0 d.D d.tr
  let b := lsB dl a.1 a.2.1 a.2.2
  { D := b.1, nd := trimN b.1 (min (d.nd + dl) 800), dp := d.dp + dl, neg := d.neg, tr := b.2 }
theorem more_le {D : Nat → Nat} {nd k : Nat} (h1 : 1 ≤ k) (hk : k ≤ 60) : more D nd k ≤ 19 := by
  obtain ⟨-, -, -, -, -, -, a, b⟩ := cheat_ok h1 hk
  unfold more; split <;> omega
theorem more_num {d : Dec} {k : Nat} (h : d.Ok) (h1 : 1 ≤ k) (hk : k ≤ 60) :
    tl d.D d.nd 0 * 2 ^ k / 10 ^ d.nd < 10 ^ more d.D d.nd k ∧ (0 < more d.D d.nd k → 10 ^ (more d.D d.nd k - 1) ≤ tl d.D d.nd 0 * 2 ^ k / 10 ^ d.nd) := by
  obtain ⟨c1, c2, c3, c4, c5, c6, c7, c8⟩ := cheat_ok h1 hk
  have hT := tl_lt (D := d.D) d.nd 0 fun j _ hj => h.dig j (by omega)
  have hp := Nat.pow_pos (n := d.nd) (show 0 < 10 by omega)
  have hG : 10 ^ (d.nd - 1) ≤ tl d.D d.nd 0 := by
    obtain ⟨m, hm⟩ : ∃ m, d.nd = m + 1 := ⟨d.nd - 1, by have := h.pos; omega⟩
    rw [hm]
    exact tl_ge (h.dig 0 h.pos) h.lead
  have hl := Nat.pow_pos (n := (cheat k).2.length) (show 0 < 10 by omega)
  have e10 : 5 ^ k * 2 ^ k = 10 ^ k := by rw [← Nat.mul_pow]
  have ek : 10 ^ k = 10 ^ (cheat k).2.length * 10 ^ ((cheat k).1 - 1) := by rw [← Nat.pow_add]; congr 1; omega
  have h2k := Nat.two_pow_pos k
  unfold more
  by_cases hb : plt d.D d.nd (cheat k).2 0 = true
  · rw [if_pos hb]
    have := plt_true _ 0 (Nat.zero_le _) h.dig c1 c2 hb
    rw [Nat.sub_zero, c3] at this
    refine ⟨?_, fun hlt => ?_⟩
    · rw [Nat.div_lt_iff_lt_mul hp]
      have hx : tl d.D d.nd 0 * 10 ^ (cheat k).2.length * 2 ^ k < 5 ^ k * 10 ^ d.nd * 2 ^ k := Nat.mul_lt_mul_of_pos_right this h2k
      rw [mul3, mul3 (5 ^ k), e10, ek, Nat.mul_assoc (10 ^ (cheat k).2.length), Nat.mul_comm (10 ^ (cheat k).2.length)] at hx
      exact Nat.lt_of_mul_lt_mul_right hx
    · rw [Nat.le_div_iff_mul_le hp]
      obtain ⟨m, hm⟩ : ∃ m, d.nd = m + 1 := ⟨d.nd - 1, by have := h.pos; omega⟩
      obtain ⟨q, hq⟩ : ∃ q, (cheat k).1 = q + 2 := ⟨(cheat k).1 - 2, by omega⟩
      rw [hm] at hG ⊢
      rw [hq] at c6 ⊢
      simp only [Nat.add_sub_cancel] at hG
      have e1 : q + 2 - 1 = q + 1 := by omega
      have e2 : q + 1 - 1 = q := by omega
      rw [e1] at c6
      rw [e1, e2]
      have e : 10 ^ q * 10 ^ (m + 1) = 10 ^ m * 10 ^ (q + 1) := by rw [← Nat.pow_add, ← Nat.pow_add]; congr 1; omega
      rw [e]
      exact Nat.mul_le_mul hG c6
  · rw [if_neg hb]
    have := plt_false _ 0 (Nat.zero_le _) h.dig c1 (by simpa using hb)
    rw [Nat.sub_zero, c3] at this
    refine ⟨?_, fun _ => ?_⟩
    · rw [Nat.div_lt_iff_lt_mul hp]
      have : tl d.D d.nd 0 * 2 ^ k < 10 ^ d.nd * 10 ^ (cheat k).1 := Nat.mul_lt_mul'' hT c5
      rw [Nat.mul_comm (10 ^ (cheat k).1)]; exact this
    · rw [Nat.le_div_iff_mul_le hp]
      have hx : 5 ^ k * 10 ^ d.nd * 2 ^ k ≤ tl d.D d.nd 0 * 10 ^ (cheat k).2.length * 2 ^ k := Nat.mul_le_mul_right _ this
      rw [mul3, mul3 (tl d.D d.nd 0), e10, ek, Nat.mul_assoc (10 ^ (cheat k).2.length), Nat.mul_comm (10 ^ (cheat k).2.length)] at hx
      exact Nat.le_of_mul_le_mul_right hx hl
theorem shl_ok {d : Dec} {k : Nat} (h : d.Ok) (h1 : 1 ≤ k) (hk : k ≤ 60) : (shl d k).Ok ∧ d.dp ≤ (shl d k).dp ∧ (shl d k).dp ≤ d.dp + 19 ∧ (d.dp < (shl d k).dp ∨ (shl d k).dp = d.dp ∧ d.D 0 < (shl d k).D 0) := by
  obtain ⟨m1, m2⟩ := more_num h h1 hk
  have m3 := more_le (D := d.D) (nd := d.nd) h1 hk
  unfold shl
  generalize more d.D d.nd k = dl at m1 m2 m3
  have hA := lsA_ok d.nd 0 d.D d.tr (Nat.le_refl _) (LInv.init d.D k dl d.nd h.pos)
  simp only
  generalize lsA k dl d.nd 0 d.D d.tr = a at hA
  have hn := hA.num0
  rw [Nat.sub_zero] at hn
  obtain ⟨b1, b2, b3⟩ := lsB_ok dl a.1 a.2.1 a.2.2 (by rw [hn]; exact m1) (fun e => by rw [hn]; exact m2 e) (by omega)
  generalize lsB dl a.1 a.2.1 a.2.2 = b at b1 b2 b3
  have hp := h.pos
  have hl : b.1 0 ≠ 48 ∧ (dl = 0 → d.D 0 < b.1 0) := by
    by_cases e : dl = 0
    · subst e
      obtain ⟨m, g1, g2, g3⟩ := hA.last rfl rfl
      have h0 := h.dig 0 h.pos
      have hld := h.lead
      unfold Dg at h0
      have h2 : 2 ^ 1 ≤ 2 ^ k := Nat.pow_le_pow_right (by omega) h1
      have h3 : (d.D 0 - 48) * 2 ≤ (d.D 0 - 48) * 2 ^ k := Nat.mul_le_mul_left _ (by omega)
      rw [b3 0 (Nat.le_refl _), g2]
      rw [hn] at g1
      simp at m1
      rw [Nat.div_eq_of_lt m1] at g1
      omega
    · exact ⟨b2 (by omega), fun e' => absurd e' e⟩
  refine ⟨⟨Nat.le_trans (trimN_le _ _) (by omega), trimN_pos _ hl.1 _ (by omega), fun i hi => ?_, hl.1⟩, by omega, by omega, ?_⟩
  · have hi' := Nat.lt_of_lt_of_le hi (trimN_le _ _)
    by_cases e : i < dl
    · exact b1 i e
    · show Dg (b.1 i)
      rw [b3 i (by omega)]
      exact hA.put i (by omega) (by omega) (by omega)
  · by_cases e : dl = 0
    · subst e; exact Or.inr ⟨by simp, hl.2 rfl⟩
    · exact Or.inl (by omega)

/-! ## the bits -/

def pw (n : Nat) : Nat := if 9 ≤ n then 27 else [1, 3, 6, 9, 13, 16, 19, 23, 26].getD n 0
theorem pw_bd (n : Nat) : 1 ≤ pw n ∧ pw n ≤ 27 := by
  unfold pw
  by_cases h : 9 ≤ n
  · simp [h]
  · rw [if_neg h]
    have : n = 0 ∨ n = 1 ∨ n = 2 ∨ n = 3 ∨ n = 4 ∨ n = 5 ∨ n = 6 ∨ n = 7 ∨ n = 8 := by omega
    rcases this with rfl | rfl | rfl | rfl | rfl | rfl | rfl | rfl | rfl <;> decide
theorem Dec.Ok.lead9 {d : Dec} (h : d.Ok) : 49 ≤ d.D 0 ∧ d.D 0 ≤ 57 := by
  have a := h.dig 0 h.pos
  have b := h.lead
  unfold Dg at a
  omega
def meaA (d : Dec) : Nat := (d.dp * 10 + ((d.D 0 : Nat) - 48 : Int)).toNat
def meaB (d : Dec) : Nat := ((1 - d.dp) * 10 + 57 - (d.D 0 : Nat)).toNat
theorem meaA_lt {d : Dec} (h : d.Ok) (hp : 0 < d.dp) {k : Nat} (h1 : 1 ≤ k) (hk : k ≤ 60) : meaA (shr d k) < meaA d := by
  obtain ⟨a, b, c, e⟩ := shr_ok h h1 hk
  have := h.lead9
  have := a.lead9
  unfold meaA
  omega
theorem meaB_lt {d : Dec} (h : d.Ok) (hp : d.dp ≤ 0) {k : Nat} (h1 : 1 ≤ k) (hk : k ≤ 60) : meaB (shl d k) < meaB d := by
  obtain ⟨a, b, c, e⟩ := shl_ok h h1 hk
  have := h.lead9
  have := a.lead9
  unfold meaB
  omega
def fbA : Nat → Dec → Int → Dec × Int
  | 0, d, e => (d, e)
  | f + 1, d, e => if 0 < d.dp then fbA f (shr d (pw d.dp.toNat)) (e + pw d.dp.toNat) else (d, e)
def fbB : Nat → Dec → Int → Dec × Int
  | 0, d, e => (d, e)
  | f + 1, d, e => if d.dp < 0 ∨ d.dp = 0 ∧ d.D 0 < 53 then fbB f (shl d (pw (-d.dp).toNat)) (e - pw (-d.dp).toNat) else (d, e)
theorem fbA_ok : ∀ f d e, d.Ok → meaA d ≤ f → (fbA f d e).1.Ok ∧ e ≤ (fbA f d e).2 ∧ (fbA f d e).2 ≤ e + 27 * f ∧ (fbA f d e).1.dp ≤ d.dp ∧ ((fbA f d e).1.dp ≤ 0) ∧ (-20 ≤ d.dp → -20 ≤ (fbA f d e).1.dp ∨ True)
  | 0, d, e, h, hm => by
    have := h.lead9
    unfold meaA at hm
    refine ⟨h, ?_, ?_, ?_, ?_, fun _ => Or.inr trivial⟩ <;> simp only [fbA] <;> omega
  | f + 1, d, e, h, hm => by
    unfold fbA
    by_cases hp : 0 < d.dp
    · rw [if_pos hp]
      have hb := pw_bd d.dp.toNat
      have hl := meaA_lt h hp hb.1 (by omega)
      obtain ⟨a, b, _, _⟩ := shr_ok h hb.1 (by omega)
      obtain ⟨a1, a2, a3, a4, a5, _⟩ := fbA_ok f (shr d (pw d.dp.toNat)) (e + pw d.dp.toNat) a (by omega)
      exact ⟨a1, by omega, by omega, by omega, a5, fun _ => Or.inr trivial⟩
    · rw [if_neg hp]
      exact ⟨h, by simp, by simp only []; omega, by simp, by simp only []; omega, fun _ => Or.inr trivial⟩
theorem fbB_ok : ∀ f d e, d.Ok → meaB d ≤ f → (fbB f d e).1.Ok ∧ (fbB f d e).2 ≤ e ∧ e - 27 * f ≤ (fbB f d e).2
  | 0, d, e, h, hm => ⟨h, by simp [fbB], by simp [fbB]⟩
  | f + 1, d, e, h, hm => by
    unfold fbB
    by_cases hp : d.dp < 0 ∨ d.dp = 0 ∧ d.D 0 < 53
    · rw [if_pos hp]
      have hb := pw_bd (-d.dp).toNat
      have hl := meaB_lt h (by omega) hb.1 (by omega)
      obtain ⟨a, _, _, _⟩ := shl_ok h hb.1 (by omega)
      obtain ⟨a1, a2, a3⟩ := fbB_ok f (shl d (pw (-d.dp).toNat)) (e - pw (-d.dp).toNat) a (by omega)
      exact ⟨a1, by omega, by omega⟩
    · rw [if_neg hp]
      exact ⟨h, by simp, by simp only []; omega⟩
/-- Many bits to the right. -/
def shrs : Nat → Dec → Nat → Dec
  | 0, d, _ => d
  | f + 1, d, k => if 60 < k then shrs f (shr d 60) (k - 60) else shr d k
theorem shrs_ok : ∀ f d k, d.Ok → 1 ≤ k → (shrs f d k).Ok
  | 0, d, k, h, _ => h
  | f + 1, d, k, h, h1 => by
    unfold shrs
    split
    · exact shrs_ok f _ _ (shr_ok h (by omega) (by omega)).1 (by omega)
    · exact (shr_ok h h1 (by omega)).1

end Pf
