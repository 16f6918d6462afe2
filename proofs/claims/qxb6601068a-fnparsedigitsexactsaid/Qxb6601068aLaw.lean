/-! THE PLAIN LAW: decimal digits and their value. No Go in sight. -/
namespace Go.Proofs.Qxb6601068a

/-- Ten to the t. -/
def p10 : Nat → Int
  | 0 => 1
  | t + 1 => p10 t * 10
/-- The value of the t digits from place s on. -/
def vl (f : Nat → Int) (s : Nat) : Nat → Int
  | 0 => 0
  | t + 1 => vl f s t * 10 + (f (s + t) - 48)
/-- The t bytes from place s on are digits. -/
def Dig (f : Nat → Int) (s t : Nat) : Prop := ∀ i, i < t → 48 ≤ f (s + i) ∧ f (s + i) ≤ 57

theorem p10_pos : ∀ t, 1 ≤ p10 t
  | 0 => by simp [p10]
  | t + 1 => by have := p10_pos t; rw [p10]; omega
theorem p10_mono {a b : Nat} (h : a ≤ b) : p10 a ≤ p10 b := by
  induction b with
  | zero => obtain rfl : a = 0 := by omega
            exact Int.le_refl _
  | succ b ih =>
    by_cases e : a = b + 1
    · rw [e]; exact Int.le_refl _
    · have := ih (by omega)
      have := p10_pos b
      rw [p10]; omega
theorem Dig.less {f : Nat → Int} {s t k : Nat} (h : Dig f s t) (hk : k ≤ t) : Dig f s k := fun i hi => h i (by omega)
theorem Dig.tail {f : Nat → Int} {s t k r : Nat} (h : Dig f s t) (hk : k + r ≤ t) : Dig f (s + k) r := fun i hi => by
  have := h (k + i) (by omega)
  rw [Nat.add_assoc]; exact this

theorem vl_congr {f g : Nat → Int} {s s' : Nat} : ∀ {t : Nat}, (∀ i, i < t → f (s + i) = g (s' + i)) → vl f s t = vl g s' t
  | 0, _ => rfl
  | t + 1, h => by rw [vl, vl, vl_congr (t := t) (fun i hi => h i (by omega)), h t (by omega)]
theorem vl_append (f : Nat → Int) (s t : Nat) : ∀ r, vl f s (t + r) = vl f s t * p10 r + vl f (s + t) r
  | 0 => by simp [vl, p10]
  | r + 1 => by
    have ih := vl_append f s t r
    show vl f s (t + r) * 10 + (f (s + (t + r)) - 48) = _
    rw [ih, p10, vl, ← Nat.add_assoc s t r, Int.add_mul, Int.mul_assoc]
    omega
theorem vl_left (f : Nat → Int) (s t : Nat) : vl f s (t + 1) = (f s - 48) * p10 t + vl f (s + 1) t := by
  have := vl_append f s 1 t
  rw [Nat.add_comm 1 t] at this
  rw [this]
  simp [vl]
theorem vl_bound {f : Nat → Int} {s : Nat} : ∀ {t : Nat}, Dig f s t → 0 ≤ vl f s t ∧ vl f s t < p10 t
  | 0, _ => by simp [vl, p10]
  | t + 1, h => by
    have ih := vl_bound (h.less (k := t) (by omega))
    have hd := h t (by omega)
    rw [vl, p10]; omega
theorem vl_mono {f : Nat → Int} {s t : Nat} (h : Dig f s t) {k : Nat} (hk : k ≤ t) : vl f s k ≤ vl f s t := by
  induction t with
  | zero => obtain rfl : k = 0 := by omega
            exact Int.le_refl _
  | succ t ih =>
    by_cases e : k = t + 1
    · rw [e]; exact Int.le_refl _
    · have h1 := ih (h.less (by omega)) (by omega)
      have h2 := (vl_bound (h.less (k := t) (by omega))).1
      have h3 := h t (by omega)
      rw [vl]; omega
theorem vl_zeros {f : Nat → Int} {s : Nat} : ∀ {t : Nat}, (∀ i, i < t → f (s + i) = 48) → vl f s t = 0
  | 0, _ => rfl
  | t + 1, h => by rw [vl, vl_zeros (t := t) (fun i hi => h i (by omega)), h t (by omega)]; rfl
theorem vl_lead {f : Nat → Int} {s t : Nat} (h : Dig f s (t + 1)) (h0 : f s ≠ 48) : p10 t ≤ vl f s (t + 1) := by
  have hb := (vl_bound (h.tail (k := 1) (r := t) (by omega))).1
  have hd := h 0 (by omega)
  rw [Nat.add_zero] at hd
  rw [vl_left]
  have hp := p10_pos t
  have : 1 * p10 t ≤ (f s - 48) * p10 t := Int.mul_le_mul_of_nonneg_right (by omega) (by omega)
  omega

/-- Two texts of digits without a leading zero that have one value are one text. -/
theorem vl_unique {f g : Nat → Int} {s s' : Nat} : ∀ {m n : Nat}, Dig f s m → Dig g s' n → (0 < m → f s ≠ 48) → (0 < n → g s' ≠ 48) → vl f s m = vl g s' n → m = n ∧ ∀ i, i < m → f (s + i) = g (s' + i)
  | 0, 0, _, _, _, _, _ => ⟨rfl, fun i hi => by omega⟩
  | 0, n + 1, _, hg, _, h0, hv => by
    have := vl_lead hg (h0 (by omega))
    have hp := p10_pos n
    rw [vl] at hv
    omega
  | m + 1, 0, hf, _, h0, _, hv => by
    have := vl_lead hf (h0 (by omega))
    have hp := p10_pos m
    rw [vl.eq_1 g] at hv
    omega
  | m + 1, n + 1, hf, hg, h0, h0', hv => by
    have d1 := hf m (by omega)
    have d2 := hg n (by omega)
    rw [vl, vl] at hv
    obtain ⟨e1, e2⟩ := vl_unique (m := m) (n := n) (hf.less (by omega)) (hg.less (by omega)) (fun _ => h0 (by omega)) (fun _ => h0' (by omega)) (by omega)
    subst e1
    refine ⟨rfl, fun i hi => ?_⟩
    by_cases e : i = m
    · subst e; omega
    · exact e2 i (by omega)
/-- At the first place where two texts of one length part, the greater digit has the greater value. -/
theorem vl_lex {f g : Nat → Int} {t j : Nat} (hf : Dig f 0 t) (hg : Dig g 0 t) (hj : j < t) (he : ∀ i, i < j → f i = g i) (hlt : g j < f j) : vl g 0 t < vl f 0 t := by
  obtain ⟨r, rfl⟩ : ∃ r, t = j + 1 + r := ⟨t - (j + 1), by omega⟩
  have bf := vl_bound (hf.tail (k := j + 1) (r := r) (by omega))
  have bg := vl_bound (hg.tail (k := j + 1) (r := r) (by omega))
  rw [vl_append g, vl_append f]
  have e : vl f 0 j = vl g 0 j := vl_congr fun i hi => by rw [Nat.zero_add]; exact he i hi
  have hA : vl g 0 (j + 1) + 1 ≤ vl f 0 (j + 1) := by
    rw [vl, vl, e, Nat.zero_add]; omega
  have hp := p10_pos r
  have : (vl g 0 (j + 1) + 1) * p10 r ≤ vl f 0 (j + 1) * p10 r := Int.mul_le_mul_of_nonneg_right hA (by omega)
  rw [Int.add_mul] at this
  omega
theorem p10_20 : p10 20 = 100000000000000000000 := by decide
theorem p10_19 : p10 19 = 10000000000000000000 := by decide
end Go.Proofs.Qxb6601068a
