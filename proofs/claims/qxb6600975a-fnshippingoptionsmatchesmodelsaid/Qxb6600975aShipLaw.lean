import Derived.Test.Qxb6600975aShip
namespace Go.Proofs.Qxb6600975a
open Go.RowKit

/-! ### The plain law: no Go in sight -/
section
variable (R : Ship) (country : ByteArray)
def isOwn (i : Nat) : Bool := (R.cc i).toList == country.toList
def isDfl (i : Nat) : Bool := (R.cc i).toList == [100, 101, 102, 97, 117, 108, 116]
def key (i : Nat) : List UInt8 := (R.lv i).data.toList
/-- What the function's map holds behind k rows. -/
def ch : Nat → List UInt8 → Option Nat
  | 0 => fun _ => none
  | k + 1 => if isOwn R country k = true then upd (ch k) (key R k) k else if (isDfl R k && !(ch k (key R k)).isSome) = true then upd (ch k) (key R k) k else ch k
/-- The model's first map behind k rows. -/
def ownM : Nat → List UInt8 → Option Nat
  | 0 => fun _ => none
  | k + 1 => if isOwn R country k = true then upd (ownM k) (key R k) k else ownM k
/-- The model's second map when the t rows from j on have been met, the last first. -/
def fdM : Nat → Nat → List UInt8 → Option Nat
  | _, 0 => fun _ => none
  | j, t + 1 => if isDfl R j = true then upd (fdM (j + 1) t) (key R j) j else fdM (j + 1) t

theorem fdM_right (s : List UInt8) : ∀ (t j : Nat), fdM R j (t + 1) s = (fdM R j t s).or (if isDfl R (j + t) = true ∧ s = key R (j + t) then some (j + t) else none)
  | 0, j => by
    by_cases h : isDfl R j = true
    · simp only [fdM, h, if_true, Nat.add_zero, true_and, upd]; simp
    · simp [fdM, h]
  | t + 1, j => by
    have ih := fdM_right s t (j + 1)
    have e : j + 1 + t = j + (t + 1) := by omega
    rw [e] at ih
    rw [fdM]
    conv => rhs; rw [fdM]
    by_cases h : isDfl R j = true
    · rw [if_pos h, if_pos h]
      by_cases hs : s = key R j
      · rw [upd, upd, if_pos hs, if_pos hs]; rfl
      · rw [upd_other hs, upd_other hs]; exact ih
    · rw [if_neg h, if_neg h]; exact ih

theorem ch_is (s : List UInt8) : ∀ k, ch R country k s = (ownM R country k s).or (fdM R 0 k s)
  | 0 => rfl
  | k + 1 => by
    have ih := ch_is s k
    have hr := fdM_right R s k 0
    rw [Nat.zero_add] at hr
    rw [hr]
    clear hr
    by_cases ho : isOwn R country k = true
    · have e1 : ch R country (k + 1) = upd (ch R country k) (key R k) k := by rw [ch, if_pos ho]
      have e2 : ownM R country (k + 1) = upd (ownM R country k) (key R k) k := by rw [ownM, if_pos ho]
      rw [e1, e2]
      by_cases hs : s = key R k
      · rw [upd, upd, if_pos hs, if_pos hs]; rfl
      · have e3 : (if isDfl R k = true ∧ s = key R k then some k else none) = none := if_neg (fun h => hs h.2)
        rw [upd_other hs, upd_other hs, e3, ih]; simp
    · have e2 : ownM R country (k + 1) = ownM R country k := by rw [ownM, if_neg ho]
      rw [e2]
      by_cases hs : isDfl R k = true ∧ s = key R k
      · have e3 : (if isDfl R k = true ∧ s = key R k then some k else none) = some k := if_pos hs
        rw [e3]
        obtain ⟨hd, rfl⟩ := hs
        cases hc : ch R country k (key R k) with
        | none =>
          have e1 : ch R country (k + 1) = upd (ch R country k) (key R k) k := by rw [ch, if_neg ho, if_pos (by rw [hd, hc]; rfl)]
          rw [e1, upd_same]
          rw [hc] at ih
          cases h1 : ownM R country k (key R k) with
          | some j => rw [h1] at ih; cases ih
          | none =>
            rw [h1] at ih
            cases h2 : fdM R 0 k (key R k) with
            | some j => rw [h2] at ih; cases ih
            | none => rfl
        | some j =>
          have e1 : ch R country (k + 1) = ch R country k := by rw [ch, if_neg ho, if_neg (by rw [hd, hc]; simp)]
          rw [e1, hc]
          rw [hc] at ih
          cases h1 : ownM R country k (key R k) with
          | some j' => rw [h1] at ih; exact ih
          | none =>
            rw [h1] at ih
            cases h2 : fdM R 0 k (key R k) with
            | some j' => rw [h2] at ih; exact ih
            | none => rw [h2] at ih; cases ih
      · have e3 : (if isDfl R k = true ∧ s = key R k then some k else none) = none := if_neg hs
        rw [e3]
        have e1 : ch R country (k + 1) s = ch R country k s := by
          rw [ch, if_neg ho]
          by_cases hb : (isDfl R k && !(ch R country k (key R k)).isSome) = true
          · rw [if_pos hb]
            have hd : isDfl R k = true := by
              cases h : isDfl R k
              · rw [h] at hb; cases hb
              · rfl
            exact upd_other fun h => hs ⟨hd, h⟩
          · rw [if_neg hb]
        rw [e1, ih]; simp

/-- Is row i offered, as the function has it; as the model has it. -/
def selF (n i : Nat) : Bool := ch R country n (key R i) == some i
def selM (n i : Nat) : Bool := match ownM R country n (key R i) with | some j => j == i | none => fdM R 0 n (key R i) == some i
theorem sel_eq (n i : Nat) : selF R country n i = selM R country n i := by
  unfold selF selM
  rw [ch_is]
  cases ownM R country n (key R i) with
  | some j => simp
  | none => simp
/-- The rows that are offered among the first k. -/
def selTo (n k : Nat) : List Nat := (List.range k).filter (selF R country n)
theorem selTo_hit {n k : Nat} (h : selF R country n k = true) : selTo R country n (k + 1) = selTo R country n k ++ [k] := by
  rw [selTo, List.range_succ, List.filter_append]; simp [h, selTo]
theorem selTo_miss {n k : Nat} (h : selF R country n k = false) : selTo R country n (k + 1) = selTo R country n k := by
  rw [selTo, List.range_succ, List.filter_append]; simp [h, selTo]
theorem selTo_length (n k : Nat) : (selTo R country n k).length ≤ k := by
  have := List.length_filter_le (selF R country n) (List.range k)
  rw [List.length_range] at this; exact this
theorem selTo_lt {n k i : Nat} (h : i ∈ selTo R country n k) : i < k := by
  have := (List.mem_filter.1 h).1
  exact List.mem_range.1 this
end
end Go.Proofs.Qxb6600975a
