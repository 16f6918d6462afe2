import Derived.Test.Qxb6601068aRound
import Derived.BigQuiet
import Derived.Deep.QuietTactic
namespace Go.Proofs.Qxb6601068a
open Go.RowKit

/-- The greatest uint64's digits, as the text has them. -/
def mx (k : Nat) : Int := if h : k < 20 then (((⟨#[49, 56, 52, 52, 54, 55, 52, 52, 48, 55, 51, 55, 48, 57, 53, 53, 49, 54, 49, 53]⟩ : ByteArray)[k]'h).toNat : Int) else 48
theorem mx_at {k : Nat} (h : k < 20) : (((⟨#[49, 56, 52, 52, 54, 55, 52, 52, 48, 55, 51, 55, 48, 57, 53, 53, 49, 54, 49, 53]⟩ : ByteArray)[k]'h).toNat : Int) = mx k := by unfold mx; rw [dif_pos h]
theorem mx_dig : Dig mx 0 20 := by
  intro i hi
  rw [Nat.zero_add]
  have h : ∀ k : Fin 20, 48 ≤ mx k.val ∧ mx k.val ≤ 57 := by decide
  exact h ⟨i, hi⟩
theorem mx_val : vl mx 0 20 = 18446744073709551615 := by decide

theorem zzBytes12 (a : Option Addr) (n c : Nat) (w : World) : Calls Try.prog 12 #[.slice a n c] w fun e w' => IsBoolIf (n ≤ 1048576) e ∧ w' = w := by
  go_enter Try.func12, Try.ntmps12
  by_cases g1 : (1048576 : Int) < n
  · go_wp2
    go_ret
    exact ⟨⟨false, rfl, fun h => by cases h⟩, rfl⟩
  have g1' : n ≤ 1048576 := by omega
  go_wp2
  all_goals (go_ret; exact ⟨⟨_, rfl, fun _ => by first | exact g1' | trivial⟩, rfl⟩)

theorem eql24 (w : World) (a : Option Addr) (n c n' c' : Nat) : (binOp .eql 24 (.slice a n c) (.slice none n' c')).run Try.prog w = .ok (.bool a.isNone) w := Lib.run_eql_slice_nil w _ _ a n c n' c' Try.underlying24
/-- A copy of the bytes: nil, or in a row of its own. -/
def IsCopy (w : World) (a : Option Addr) (n c : Nat) (x : Nat → Int) : Prop := (a = none ∧ n = 0 ∧ c = 0) ∨ ∃ g, a = some ⟨g, 0, none⟩ ∧ c = n ∧ ByteRow w g 5 n x
theorem IsCopy.bytes {w : World} {a : Option Addr} {n c : Nat} {x : Nat → Int} (h : IsCopy w a n c x) : Bytes w a n x := by
  rcases h with ⟨_, rfl, _⟩ | ⟨g, rfl, _, h⟩
  · exact fun h => by omega
  · exact h.bytes

set_option maxHeartbeats 800000 in
theorem clone13 (a : Option Addr) (n c : Nat) (x : Nat → Int) (w : World) (hs : Bytes w a n x) (hn : n ≤ 1048576) (hnil : a = none → n = 0) :
    Calls Try.prog 13 #[.slice a n c] w fun e w' => ∃ a' c', e = .returned (.slice a' n c') ∧ IsCopy w' a' n c' x ∧ Below w.heap.size w w' := by
  have hq := eql24
  cases a with
  | none =>
    obtain rfl := hnil rfl
    go_enter Try.func13, Try.ntmps13
    go_wp2
    go_ret
    exact ⟨none, 0, rfl, .inl ⟨rfl, rfl, rfl⟩, Below.refl _ _⟩
  | some ad =>
    clear hnil
    go_enter Try.func13, Try.ntmps13
    go_wp2_with (first
      | ((with_reducible refine wpList_make_abs rfl (.tmp 8) (.tmp 8) 24 rfl 5 _ 1 1 Try.underlying24 info5 n (n : Int) ?_ ?_ rfl ?_ ?_ ?_); rfl; rfl; omega; omega; intro w1 hA hb1 hs1))
    have hr0 := made_bytes hA
    clear hA
    go_loopw [4] (fun v wr => ∃ (k : Nat) (y : Nat → Int), v = .int .i64 k ∧ k ≤ n ∧ ByteRow wr w.heap.size 5 n y ∧ (∀ t, t < k → y t = x t) ∧ Below w.heap.size w wr) (fun v _ => n - (intOf v).toNat)
    case atStart => exact ⟨0, _, rfl, Nat.zero_le _, hr0, fun t ht => by omega, hb1⟩
    case round =>
      clear hr0 hb1 hs1
      obtain ⟨k, y, rfl, hk, hry, hy, hb1⟩ := hrel
      have HY : Hid (∀ t, t < k → y t = x t) := hy
      clear hy
      by_cases hlt : k < n
      · have hlt' : (k : Int) < n := by omega
        obtain ⟨b, off, hadd, hbb, hc⟩ := hs (by omega)
        obtain rfl : ad = ⟨b, off, none⟩ := Option.some.inj hadd
        have cx : wr.cell? ⟨b, off + k, none⟩ = some (.int .u8 (x k)) := (hb1.cell (p := ⟨b, off + k, none⟩) hbb).trans (hc k hlt)
        have cy := World.rowIs.cell hry hlt
        have fy := World.rowIs.frozen hry k
        clear hs hc hadd
        go_wp2
        go_roundw
        case rel =>
          refine ⟨k + 1, _, by go_num, by omega, hry.set k _, ?_, hb1.setCell (Nat.le_refl _) _⟩
          intro t ht
          by_cases e : t = k
          · rw [e, put_same]
          · rw [put_other e]; exact HY.out t (by omega)
        case measure => simp [intOf]; omega
      · have hge : (n : Int) ≤ k := by omega
        clear hlt
        go_wp2
        go_ret
        exact ⟨_, n, rfl, .inr ⟨w.heap.size, rfl, rfl, World.rowIs.congr hry fun t ht => by rw [HY.out t (by omega)]⟩, hb1⟩

set_option maxHeartbeats 800000 in
theorem same16 (a b : Option Addr) (n c c' : Nat) (x y : Nat → Int) (w : World) (hx : Bytes w a n x) (hy : Bytes w b n y) (hn : n ≤ 1048576) (he : ∀ i, i < n → x i = y i) :
    Calls Try.prog 16 #[.slice a n c, .slice b n c'] w fun e w' => e = .returned (.bool true) ∧ Below w.heap.size w w' := by
  have HE : Hid (∀ i, i < n → x i = y i) := he
  clear he
  go_enter Try.func16, Try.ntmps16
  go_wp2
  go_loopw [5] (fun v wr => ∃ (k : Nat), v = .int .i64 k ∧ k ≤ n ∧ Below w.heap.size w wr) (fun v _ => n - (intOf v).toNat)
  case atStart => exact ⟨0, rfl, Nat.zero_le _, Below.refl _ _⟩
  case round =>
    obtain ⟨k, rfl, hk, hb⟩ := hrel
    by_cases hlt : k < n
    · obtain ⟨b1, off1, rfl, hbb1, hc1⟩ := hx (by omega)
      obtain ⟨b2, off2, rfl, hbb2, hc2⟩ := hy (by omega)
      have cx : wr.cell? ⟨b1, off1 + k, none⟩ = some (.int .u8 (x k)) := (hb.cell (p := ⟨b1, off1 + k, none⟩) hbb1).trans (hc1 k hlt)
      have cy : wr.cell? ⟨b2, off2 + k, none⟩ = some (.int .u8 (x k)) := (hb.cell (p := ⟨b2, off2 + k, none⟩) hbb2).trans ((hc2 k hlt).trans (by rw [HE.out k hlt]))
      have hlt' : (k : Int) < n := by omega
      clear hx hy hc1 hc2
      go_wp2
      go_quiet (fail)
      go_wp2
      go_roundw
      case rel => exact ⟨k + 1, by go_num, by omega, below_drewN hb _⟩
      case measure => simp [intOf]; omega
    · have hge : (n : Int) ≤ k := by omega
      clear hlt
      go_wp2
      go_ret
      exact ⟨rfl, hb⟩

set_option maxHeartbeats 800000 in
theorem exc_len (a : Option Addr) (n c : Nat) (w : World) (hn : n ≠ 20) : Calls Try.prog 15 #[.slice a n c] w fun e w' => e = .returned (.bool (decide (20 < n))) ∧ Below w.heap.size w w' := by
  have h1 : ((n : Int) != 20) = true := by rw [bne_iff_ne]; omega
  go_enter Try.func15, Try.ntmps15
  go_wp2
  go_ret
  refine ⟨?_, Below.refl _ _⟩
  show Ending.returned (.bool (decide ((20 : Int) < n))) = _
  have : decide ((20 : Int) < n) = decide (20 < n) := by rw [decide_eq_decide]; omega
  rw [this]

set_option maxHeartbeats 800000 in
theorem exc_eq (a : Option Addr) (c : Nat) (x : Nat → Int) (w : World) (hs : Bytes w a 20 x) (he : ∀ i, i < 20 → x i = mx i) :
    Calls Try.prog 15 #[.slice a 20 c] w fun e w' => e = .returned (.bool false) ∧ Below w.heap.size w w' := by
  have HE : Hid (∀ i, i < 20 → x i = mx i) := he
  clear he
  go_enter Try.func15, Try.ntmps15
  go_wp2
  go_loopw [3] (fun v wr => ∃ (k : Nat), v = .int .i64 k ∧ k ≤ 20 ∧ Below w.heap.size w wr) (fun v _ => 20 - (intOf v).toNat)
  case atStart => exact ⟨0, rfl, Nat.zero_le _, Below.refl _ _⟩
  case round =>
    obtain ⟨k, rfl, hk, hb⟩ := hrel
    by_cases hlt : k < 20
    · obtain ⟨b, off, rfl, hbb, hc⟩ := hs (by omega)
      have ck : wr.cell? ⟨b, off + k, none⟩ = some (.int .u8 (x k)) := (hb.cell (p := ⟨b, off + k, none⟩) hbb).trans (hc k hlt)
      have hlt' : (k : Int) < 20 := by omega
      have hne : (x k != (((⟨#[49, 56, 52, 52, 54, 55, 52, 52, 48, 55, 51, 55, 48, 57, 53, 53, 49, 54, 49, 53]⟩ : ByteArray)[k]'hlt).toNat : Int)) = false := by rw [mx_at hlt, HE.out k hlt]; simp
      clear hs hc
      go_wp2
      go_quiet (fail)
      go_wp2
      go_roundw
      case rel => exact ⟨k + 1, by go_num, by omega, below_drewN hb _⟩
      case measure => simp [intOf]; omega
    · have hge : (20 : Int) ≤ k := by omega
      clear hlt
      go_wp2
      go_ret
      exact ⟨rfl, hb⟩

set_option maxHeartbeats 800000 in
theorem exc_ne (a : Option Addr) (c : Nat) (x : Nat → Int) (w : World) (hs : Bytes w a 20 x) (j : Nat) (hj : j < 20) (hne : x j ≠ mx j) (he : ∀ i, i < j → x i = mx i) :
    Calls Try.prog 15 #[.slice a 20 c] w fun e w' => e = .returned (.bool (decide (mx j < x j))) ∧ Below w.heap.size w w' := by
  have HE : Hid (∀ i, i < j → x i = mx i) := he
  have HN : Hid (x j ≠ mx j) := hne
  clear he hne
  go_enter Try.func15, Try.ntmps15
  go_wp2
  go_loopw [3] (fun v wr => ∃ (k : Nat), v = .int .i64 k ∧ k ≤ j ∧ Below w.heap.size w wr) (fun v _ => 20 - (intOf v).toNat)
  case atStart => exact ⟨0, rfl, Nat.zero_le _, Below.refl _ _⟩
  case round =>
    obtain ⟨k, rfl, hk, hb⟩ := hrel
    have hlt : k < 20 := by omega
    obtain ⟨b, off, rfl, hbb, hc⟩ := hs (by omega)
    have ck : wr.cell? ⟨b, off + k, none⟩ = some (.int .u8 (x k)) := (hb.cell (p := ⟨b, off + k, none⟩) hbb).trans (hc k hlt)
    have hlt' : (k : Int) < 20 := by omega
    clear hs hc
    by_cases e : k = j
    · subst e
      have hne : (x k != (((⟨#[49, 56, 52, 52, 54, 55, 52, 52, 48, 55, 51, 55, 48, 57, 53, 53, 49, 54, 49, 53]⟩ : ByteArray)[k]'hlt).toNat : Int)) = true := by rw [mx_at hlt, bne_iff_ne]; exact HN.out
      go_wp2
      go_quiet (fail)
      go_wp2
      go_quiet (fail)
      go_wp2
      go_ret
      refine ⟨?_, below_drewN (below_drewN hb _) _⟩
      show Ending.returned (.bool (decide ((((⟨#[49, 56, 52, 52, 54, 55, 52, 52, 48, 55, 51, 55, 48, 57, 53, 53, 49, 54, 49, 53]⟩ : ByteArray)[k]'hlt).toNat : Int) < x k))) = _
      rw [mx_at hlt]
    · have hkj : k < j := Nat.lt_of_le_of_ne hk e
      have hne : (x k != (((⟨#[49, 56, 52, 52, 54, 55, 52, 52, 48, 55, 51, 55, 48, 57, 53, 53, 49, 54, 49, 53]⟩ : ByteArray)[k]'hlt).toNat : Int)) = false := by rw [mx_at hlt, HE.out k hkj]; simp
      clear e
      go_wp2
      go_quiet (fail)
      go_wp2
      go_roundw
      case rel => exact ⟨k + 1, by go_num, by omega, below_drewN hb _⟩
      case measure => simp [intOf]; omega

theorem exceeds15 (a : Option Addr) (n c : Nat) (x : Nat → Int) (w : World) (hs : Bytes w a n x) (hd : Dig x 0 n) (h0 : 0 < n → x 0 ≠ 48) :
    Calls Try.prog 15 #[.slice a n c] w fun e w' => e = .returned (.bool (decide (18446744073709551615 < vl x 0 n))) ∧ Below w.heap.size w w' := by
  by_cases hn : n = 20
  · subst hn
    rcases first_of (fun i => x i != mx i) 20 with h | ⟨j, hj, hne, he⟩
    · have he : ∀ i, i < 20 → x i = mx i := fun i hi => by simpa using h i hi
      have hv : vl x 0 20 = 18446744073709551615 := by rw [← mx_val]; exact vl_congr fun i hi => by rw [Nat.zero_add]; exact he i hi
      rw [hv]
      exact exc_eq a c x w hs he
    · have hne' : x j ≠ mx j := by simpa using hne
      have he' : ∀ i, i < j → x i = mx i := fun i hi => by simpa using he i hi
      have hdec : decide (mx j < x j) = decide (18446744073709551615 < vl x 0 20) := by
        rw [decide_eq_decide, ← mx_val]
        constructor
        · intro h; exact vl_lex hd mx_dig hj he' h
        · intro h
          rcases Int.lt_or_gt_of_ne hne' with h2 | h2
          · have := vl_lex mx_dig hd hj (fun i hi => (he' i hi).symm) h2
            omega
          · exact h2
      rw [← hdec]
      exact exc_ne a c x w hs j hj hne' he'
  · have hdec : decide (20 < n) = decide (18446744073709551615 < vl x 0 n) := by
      rw [decide_eq_decide]
      have hb := vl_bound hd
      have e19 := p10_19
      have e20 := p10_20
      constructor
      · intro h
        obtain ⟨m, rfl⟩ : ∃ m, n = m + 1 := ⟨n - 1, by omega⟩
        have := vl_lead hd (h0 (by omega))
        have := p10_mono (show 20 ≤ m by omega)
        omega
      · intro h
        rcases Nat.lt_or_ge n 20 with h2 | h2
        · have := p10_mono (show n ≤ 19 by omega)
          omega
        · omega
    rw [← hdec]
    exact exc_len a n c w hn
end Go.Proofs.Qxb6601068a
