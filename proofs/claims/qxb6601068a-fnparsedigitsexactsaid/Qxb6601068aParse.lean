import Derived.Test.Qxb6601068aKit
import Derived.Test.Qxb6601068aLaw
namespace Go.Proofs.Qxb6601068a
open Go.RowKit

/-- A slice of bytes: where it has elements they lie at its address, below the heap's end. -/
def Bytes (w : World) (a : Option Addr) (n : Nat) (x : Nat → Int) : Prop :=
  0 < n → ∃ b off, a = some ⟨b, off, none⟩ ∧ b < w.heap.size ∧ ∀ i, i < n → w.cell? ⟨b, off + i, none⟩ = some (.int .u8 (x i))
theorem Bytes.later {w w' : World} {a : Option Addr} {n : Nat} {x : Nat → Int} (h : Bytes w a n x) (hb : Below w.heap.size w w') : Bytes w' a n x := by
  intro hn
  obtain ⟨b, off, ha, hlt, hc⟩ := h hn
  exact ⟨b, off, ha, Nat.lt_of_lt_of_le hlt hb.size, fun i hi => (hb.cell (p := ⟨b, off + i, none⟩) hlt).trans (hc i hi)⟩

/-- May the byte at place i be taken: a digit, and the value so far fits. -/
def good (x : Nat → Int) (i : Nat) : Bool := decide (48 ≤ x i ∧ x i ≤ 57) && decide (vl x 0 (i + 1) ≤ 18446744073709551615)
theorem good_dig {x : Nat → Int} {n : Nat} (h : ∀ i, i < n → good x i = true) : Dig x 0 n := by
  intro i hi
  have := h i hi
  simp only [good, Bool.and_eq_true, decide_eq_true_eq] at this
  rw [Nat.zero_add]; exact this.1

set_option maxHeartbeats 800000 in
theorem parse_ok (a : Option Addr) (n c : Nat) (x : Nat → Int) (w : World) (hs : Bytes w a n x) (hn : n ≤ 1048576) (hg : ∀ i, i < n → good x i = true) :
    Calls Try.prog 24 #[.slice a n c] w fun e w' => e = .returned (.tuple #[.int .u64 (vl x 0 n), .bool true]) ∧ w' = w := by
  have HG : Hid _ := hg
  clear hg
  go_enter Try.func24, Try.ntmps24
  go_wp2
  go_loop [4, 10] (fun v i => ∃ k : Nat, k ≤ n ∧ i = .int .i64 k ∧ v = .int .u64 (vl x 0 k)) (fun _ i => n - (intOf i).toNat)
  case atStart => exact ⟨0, Nat.zero_le _, rfl, rfl⟩
  case round =>
    obtain ⟨k, hk, rfl, rfl⟩ := hrel
    have hb := vl_bound (good_dig (n := k) fun i hi => HG.out i (by omega))
    by_cases hlt : k < n
    · obtain ⟨b, off, rfl, hbb, hc⟩ := hs (by omega)
      have hck := hc k hlt
      have hgk := HG.out k hlt
      simp only [good, Bool.and_eq_true, decide_eq_true_eq] at hgk
      obtain ⟨⟨g1, g2⟩, g3⟩ := hgk
      rw [vl, Nat.zero_add] at g3
      have hlt' : (k : Int) < n := by omega
      have HV : Hid (vl x 0 (k + 1) = vl x 0 k * 10 + (x k - 48)) := by show _ = _; rw [vl, Nat.zero_add]
      have hb0 := hb.1
      clear hs hc hb
      generalize vl x 0 k = V at *
      generalize x k = X at *
      go_wp2
      go_round
      case rel => exact ⟨k + 1, by omega, by go_num, by rw [HV.out]⟩
      case measure => simp [intOf]; omega
    · have hge : (n : Int) ≤ k := by omega
      obtain rfl : n = k := by omega
      clear hlt
      go_wp2
      go_ret2
      exact ⟨rfl, rfl⟩

set_option maxHeartbeats 800000 in
theorem parse_no (a : Option Addr) (n c : Nat) (x : Nat → Int) (w : World) (hs : Bytes w a n x) (hn : n ≤ 1048576) (hx : ∀ i, i < n → 0 ≤ x i ∧ x i ≤ 255) (i0 : Nat) (hi0 : i0 < n) (hbad : good x i0 = false) (hg : ∀ i, i < i0 → good x i = true) :
    Calls Try.prog 24 #[.slice a n c] w fun e w' => e = .returned (.tuple #[.int .u64 0, .bool false]) ∧ w' = w := by
  have HG : Hid _ := hg
  have HB : Hid _ := hbad
  have HX : Hid _ := hx
  clear hg hbad hx
  go_enter Try.func24, Try.ntmps24
  go_wp2
  go_loop [4, 10] (fun v i => ∃ k : Nat, k ≤ i0 ∧ i = .int .i64 k ∧ v = .int .u64 (vl x 0 k)) (fun _ i => n - (intOf i).toNat)
  case atStart => exact ⟨0, Nat.zero_le _, rfl, rfl⟩
  case round =>
    obtain ⟨k, hk, rfl, rfl⟩ := hrel
    have hb := vl_bound (good_dig (n := k) fun i hi => HG.out i (by omega))
    have hub : vl x 0 k ≤ 18446744073709551615 := by
      cases k with
      | zero => rw [vl]; decide
      | succ k =>
        have := HG.out k (by omega)
        simp only [good, Bool.and_eq_true, decide_eq_true_eq] at this
        exact this.2
    obtain ⟨b, off, rfl, hbb, hc⟩ := hs (by omega)
    have hck := hc k (by omega)
    have hxk := HX.out k (by omega)
    have hx0 := hxk.1
    have hx1 := hxk.2
    have hlt' : (k : Int) < n := by omega
    have hb0 := hb.1
    clear hs hc hb hxk
    by_cases e : k = i0
    · subst e
      have hbad := HB.out
      have hsplit : x k < 48 ∨ 57 < x k ∨ (48 ≤ x k ∧ x k ≤ 57 ∧ 18446744073709551615 < vl x 0 k * 10 + (x k - 48)) := by
        simp only [good, vl, Nat.zero_add, Bool.and_eq_false_iff, decide_eq_false_iff_not] at hbad
        omega
      clear hbad
      generalize vl x 0 k = V at *
      generalize x k = X at *
      rcases hsplit with h1 | h1 | ⟨h1, h2, h3⟩
      · go_wp2
        go_ret2
        exact ⟨rfl, rfl⟩
      · have h1' : ¬ X < 48 := by omega
        go_wp2
        go_ret2
        exact ⟨rfl, rfl⟩
      · go_wp2
        go_ret2
        exact ⟨rfl, rfl⟩
    · have hgk := HG.out k (by omega)
      simp only [good, Bool.and_eq_true, decide_eq_true_eq] at hgk
      obtain ⟨⟨g1, g2⟩, g3⟩ := hgk
      rw [vl, Nat.zero_add] at g3
      have HV : Hid (vl x 0 (k + 1) = vl x 0 k * 10 + (x k - 48)) := by show _ = _; rw [vl, Nat.zero_add]
      have HE : Hid _ := e
      clear e
      generalize vl x 0 k = V at *
      generalize x k = X at *
      go_wp2
      go_round
      case rel => exact ⟨k + 1, Nat.lt_of_le_of_ne hk HE.out, by go_num, by rw [HV.out]⟩
      case measure => simp [intOf]; omega
end Go.Proofs.Qxb6601068a
