import Derived.Test.Qxb6600975aTax
namespace Go.Proofs.Qxb6600975a
open Go.RowKit

/-- The last of the first k rows whose text is the default's. -/
def lastDef (cc : Nat → ByteArray) (rb : Nat → Int) : Nat → Int × Bool
  | 0 => (0, false)
  | k + 1 => if ((cc k).toList == [100, 101, 102, 97, 117, 108, 116]) = true then (rb k, true) else lastDef cc rb k
theorem lastDef_hit {cc : Nat → ByteArray} {rb : Nat → Int} {k : Nat} (h : ((cc k).toList == [100, 101, 102, 97, 117, 108, 116]) = true) : lastDef cc rb (k + 1) = (rb k, true) := by
  rw [lastDef, if_pos h]
theorem lastDef_miss {cc : Nat → ByteArray} {rb : Nat → Int} {k : Nat} (h : ((cc k).toList == [100, 101, 102, 97, 117, 108, 116]) = false) : lastDef cc rb (k + 1) = lastDef cc rb k := by
  rw [lastDef, if_neg (by rw [h]; exact Bool.false_ne_true)]

set_option maxHeartbeats 800000 in
theorem taxRate_hit (a : Option Addr) (n c : Nat) (country : ByteArray) (cc : Nat → ByteArray) (rb : Nat → Int) (w : World) (hs : TaxRows w a n cc rb) (hn : n ≤ 1048576)
    (i0 : Nat) (hi0 : i0 < n) (hm : ((cc i0).toList == country.toList) = true) (hb4 : ∀ j, j < i0 → ((cc j).toList == country.toList) = false) :
    Calls Try.prog 27 #[.slice a n c, .string country] w fun e w' => e = .returned (.tuple #[.int .i64 (rb i0), .bool true]) ∧ Below w.heap.size w w' := by
  have HM : Hid _ := hm
  have HB : Hid _ := hb4
  clear hm hb4
  go_enter Try.func27, Try.ntmps27
  go_wp2
  go_loopw [6, 7, 12] (fun r f i wr => ∃ (k : Nat) (q : Int) (g : Bool), k ≤ i0 ∧ i = .int .i64 k ∧ r = .int .i64 q ∧ f = .bool g ∧ Below w.heap.size w wr) (fun _ _ i _ => n - (intOf i).toNat)
  case atStart => exact ⟨0, _, _, Nat.zero_le _, rfl, rfl, rfl, Below.refl _ _⟩
  case round =>
    obtain ⟨k, q, g, hk, rfl, rfl, rfl, hbr⟩ := hrel
    obtain ⟨b, off, rfl, hb, hc⟩ := hs (by omega)
    have hlt' : (k : Int) < n := by omega
    have ck0 : wr.cell? ⟨b, off + k * 2, none⟩ = some (.string (cc k)) := (hbr.cell (by exact hb)).trans (hc k (by omega)).1
    have ck1 : wr.cell? ⟨b, off + k * 2 + 1, none⟩ = some (.int .i64 (rb k)) := (hbr.cell (by exact hb)).trans (hc k (by omega)).2
    have hsz := hbr.size
    clear hs hc
    by_cases e : k = i0
    · subst e
      have hm := HM.out
      go_wp2
      go_ret2
      exact ⟨rfl, hbr.alloc (by omega) _⟩
    · have hm := HB.out k (by omega)
      go_wp2
      all_goals
        go_roundw
        case rel => exact ⟨k + 1, _, _, by omega, by go_num, rfl, rfl, hbr.alloc (by omega) _⟩
        case measure => simp [intOf]; omega

set_option maxHeartbeats 800000 in
theorem taxRate_miss (a : Option Addr) (n c : Nat) (country : ByteArray) (cc : Nat → ByteArray) (rb : Nat → Int) (w : World) (hs : TaxRows w a n cc rb) (hn : n ≤ 1048576)
    (hb4 : ∀ j, j < n → ((cc j).toList == country.toList) = false) :
    Calls Try.prog 27 #[.slice a n c, .string country] w fun e w' => e = .returned (.tuple #[.int .i64 (lastDef cc rb n).1, .bool (lastDef cc rb n).2]) ∧ Below w.heap.size w w' := by
  have HB : Hid _ := hb4
  clear hb4
  go_enter Try.func27, Try.ntmps27
  go_wp2
  go_loopw [6, 7, 12] (fun r f i wr => ∃ (k : Nat), k ≤ n ∧ i = .int .i64 k ∧ r = .int .i64 (lastDef cc rb k).1 ∧ f = .bool (lastDef cc rb k).2 ∧ Below w.heap.size w wr) (fun _ _ i _ => n - (intOf i).toNat)
  case atStart => exact ⟨0, Nat.zero_le _, rfl, rfl, rfl, Below.refl _ _⟩
  case round =>
    obtain ⟨k, hk, rfl, rfl, rfl, hbr⟩ := hrel
    by_cases hlt : k < n
    · obtain ⟨b, off, rfl, hb, hc⟩ := hs (by omega)
      have hlt' : (k : Int) < n := by omega
      have ck0 : wr.cell? ⟨b, off + k * 2, none⟩ = some (.string (cc k)) := (hbr.cell (by exact hb)).trans (hc k (by omega)).1
      have ck1 : wr.cell? ⟨b, off + k * 2 + 1, none⟩ = some (.int .i64 (rb k)) := (hbr.cell (by exact hb)).trans (hc k (by omega)).2
      have hsz := hbr.size
      clear hs hc
      have hm := HB.out k hlt
      cases hd : ((cc k).toList == [100, 101, 102, 97, 117, 108, 116])
      · have HL : Hid _ := lastDef_miss (rb := rb) hd
        go_wp2
        go_roundw
        case rel => exact ⟨k + 1, by omega, by go_num, by rw [HL.out], by rw [HL.out], hbr.alloc (by omega) _⟩
        case measure => simp [intOf]; omega
      · have HL : Hid _ := lastDef_hit (rb := rb) hd
        go_wp2
        go_roundw
        case rel => exact ⟨k + 1, by omega, by go_num, by rw [HL.out], by rw [HL.out], hbr.alloc (by omega) _⟩
        case measure => simp [intOf]; omega
    · have hge : (n : Int) ≤ k := by omega
      have hkn : k = n := by omega
      have HK : Hid _ := hkn
      clear hlt hkn
      go_wp2
      go_ret2
      exact ⟨by rw [← HK.out]; rfl, hbr⟩

set_option maxHeartbeats 800000 in
theorem trModel_hit (a : Option Addr) (n c : Nat) (country : ByteArray) (cc : Nat → ByteArray) (rb : Nat → Int) (w : World) (hs : TaxRows w a n cc rb) (hn : n ≤ 1048576)
    (i0 : Nat) (hi0 : i0 < n) (hm : ((cc i0).toList == country.toList) = true) (hb4 : ∀ j, j < i0 → ((cc j).toList == country.toList) = false) :
    Calls Try.prog 23 #[.slice a n c, .string country] w fun e w' => e = .returned (.tuple #[.int .i64 (rb i0), .bool true]) ∧ Below w.heap.size w w' := by
  have HM : Hid _ := hm
  have HB : Hid _ := hb4
  clear hm hb4
  go_enter Try.func23, Try.ntmps23
  go_wp2
  go_loop [6] (fun i => ∃ (k : Nat), k ≤ i0 ∧ i = .int .i64 k) (fun i => n - (intOf i).toNat)
  case atStart => exact ⟨0, Nat.zero_le _, rfl⟩
  case round =>
    obtain ⟨k, hk, rfl⟩ := hrel
    obtain ⟨b, off, rfl, hb, hc⟩ := hs (by omega)
    have hlt' : (k : Int) < n := by omega
    obtain ⟨ck0, ck1⟩ := hc k (by omega)
    clear hs hc
    by_cases e : k = i0
    · subst e
      have hm := HM.out
      go_wp2
      go_ret2
      exact ⟨rfl, Below.refl _ _⟩
    · have hm := HB.out k (by omega)
      go_wp2
      go_round
      case rel => exact ⟨k + 1, by omega, by go_num⟩
      case measure => simp [intOf]; omega

set_option maxHeartbeats 800000 in
theorem trModel_miss (a : Option Addr) (n c : Nat) (country : ByteArray) (cc : Nat → ByteArray) (rb : Nat → Int) (w : World) (hs : TaxRows w a n cc rb) (hn : n ≤ 1048576)
    (hb4 : ∀ j, j < n → ((cc j).toList == country.toList) = false) :
    Calls Try.prog 23 #[.slice a n c, .string country] w fun e w' => e = .returned (.tuple #[.int .i64 (lastDef cc rb n).1, .bool (lastDef cc rb n).2]) ∧ Below w.heap.size w w' := by
  have HB : Hid _ := hb4
  clear hb4
  go_enter Try.func23, Try.ntmps23
  go_wp2
  go_loop [6] (fun i => ∃ (k : Nat), k ≤ n ∧ i = .int .i64 k) (fun i => n - (intOf i).toNat)
  case atStart => exact ⟨0, Nat.zero_le _, rfl⟩
  case round =>
    obtain ⟨k, hk, rfl⟩ := hrel
    by_cases hlt : k < n
    · obtain ⟨b, off, rfl, hb, hc⟩ := hs (by omega)
      have hlt' : (k : Int) < n := by omega
      obtain ⟨ck0, ck1⟩ := hc k (by omega)
      clear hs hc
      have hm := HB.out k (by omega)
      go_wp2
      go_round
      case rel => exact ⟨k + 1, by omega, by go_num⟩
      case measure => simp [intOf]; omega
    · have hge : (n : Int) ≤ k := by omega
      clear hlt hk
      go_wp2
      go_loop [7] (fun i => ∃ (k : Nat), k ≤ n ∧ i = .int .i64 ((k : Int) - 1) ∧ lastDef cc rb n = lastDef cc rb k) (fun i => (intOf i + 1).toNat)
      case atStart => exact ⟨n, Nat.le_refl _, rfl, rfl⟩
      case round =>
        obtain ⟨j, hj, rfl, hld⟩ := hrel
        have HL : Hid _ := hld
        clear hld
        cases j with
        | zero =>
          go_wp2
          go_ret2
          exact ⟨by rw [HL.out]; rfl, Below.refl _ _⟩
        | succ j =>
          obtain ⟨b, off, rfl, hb, hc⟩ := hs (by omega)
          obtain ⟨ck0, ck1⟩ := hc j (by omega)
          have hlt' : (j : Int) < n := by omega
          rw [show (((j + 1 : Nat) : Int) - 1) = (j : Int) from by omega]
          clear hs hc
          cases hd : ((cc j).toList == [100, 101, 102, 97, 117, 108, 116])
          · have HL2 : Hid _ := lastDef_miss (rb := rb) hd
            go_wp2
            go_round
            case rel => exact ⟨j, by omega, by go_num, by rw [HL.out, HL2.out]⟩
            case measure => simp [intOf]
          · have HL2 : Hid _ := lastDef_hit (rb := rb) hd
            go_wp2
            go_ret2
            exact ⟨by rw [HL.out, HL2.out]; rfl, Below.refl _ _⟩

/-- What both answer. -/
def IsTax (cc : Nat → ByteArray) (rb : Nat → Int) (country : ByteArray) (n : Nat) (r : Int) (f : Bool) : Prop :=
  (∃ i, i < n ∧ ((cc i).toList == country.toList) = true ∧ (∀ j, j < i → ((cc j).toList == country.toList) = false) ∧ r = rb i ∧ f = true) ∨
  ((∀ j, j < n → ((cc j).toList == country.toList) = false) ∧ r = (lastDef cc rb n).1 ∧ f = (lastDef cc rb n).2)
theorem isTax_some (cc : Nat → ByteArray) (rb : Nat → Int) (country : ByteArray) (n : Nat) : ∃ r f, IsTax cc rb country n r f := by
  rcases first_of (fun i => (cc i).toList == country.toList) n with h | ⟨i, h1, h2, h3⟩
  · exact ⟨_, _, .inr ⟨h, rfl, rfl⟩⟩
  · exact ⟨_, _, .inl ⟨i, h1, h2, h3, rfl, rfl⟩⟩
theorem taxRate27 (a : Option Addr) (n c : Nat) (country : ByteArray) (cc : Nat → ByteArray) (rb : Nat → Int) (w : World) (hs : TaxRows w a n cc rb) (hn : n ≤ 1048576) (r : Int) (f : Bool) (h : IsTax cc rb country n r f) :
    Calls Try.prog 27 #[.slice a n c, .string country] w fun e w' => e = .returned (.tuple #[.int .i64 r, .bool f]) ∧ Below w.heap.size w w' := by
  rcases h with ⟨i, h1, h2, h3, rfl, rfl⟩ | ⟨h1, rfl, rfl⟩
  · exact taxRate_hit a n c country cc rb w hs hn i h1 h2 h3
  · exact taxRate_miss a n c country cc rb w hs hn h1
theorem trModel23 (a : Option Addr) (n c : Nat) (country : ByteArray) (cc : Nat → ByteArray) (rb : Nat → Int) (w : World) (hs : TaxRows w a n cc rb) (hn : n ≤ 1048576) (r : Int) (f : Bool) (h : IsTax cc rb country n r f) :
    Calls Try.prog 23 #[.slice a n c, .string country] w fun e w' => e = .returned (.tuple #[.int .i64 r, .bool f]) ∧ Below w.heap.size w w' := by
  rcases h with ⟨i, h1, h2, h3, rfl, rfl⟩ | ⟨h1, rfl, rfl⟩
  · exact trModel_hit a n c country cc rb w hs hn i h1 h2 h3
  · exact trModel_miss a n c country cc rb w hs hn h1
theorem zzTaxRate21 (a : Option Addr) (n c : Nat) (country : ByteArray) (cc : Nat → ByteArray) (rb : Nat → Int) (w : World) (hs : TaxRows w a n cc rb) (hn : n ≤ 1048576) (r : Int) (f : Bool) (h : IsTax cc rb country n r f) :
    Calls Try.prog 21 #[.slice a n c, .string country] w fun e w' => e = .returned (.tuple #[.int .i64 r, .bool f]) ∧ Below w.heap.size w w' := by
  have HH : Hid _ := h
  clear h
  go_enter Try.func21, Try.ntmps21
  go_wp2_with fail
  refine (taxRate27 a n c country cc rb w hs hn r f HH.out).mono ?_
  rintro e w1 ⟨rfl, hb⟩
  go_wp2
  go_ret2
  exact ⟨rfl, hb⟩

theorem walkTax (a : Option Addr) (n c : Nat) (country : ByteArray) (cc : Nat → ByteArray) (rb : Nat → Int) (w : World) (hs : TaxRows w a n cc rb) :
    Calls Try.prog 6 #[.slice a n c, .string country] w fun e w' => e = .returned (.bool true) ∧ Below w.heap.size w w' := by
  obtain ⟨r, f, hrf⟩ := isTax_some cc rb country n
  have HR : Hid _ := hrf
  clear hrf
  go_enter Try.func6, Try.ntmps6
  go_wp2_with fail
  refine (zzBytes19 a n c country cc rb _ hs).mono ?_
  rintro e w1 ⟨⟨b, rfl, hn⟩, rfl⟩
  cases b
  · go_wp2
    go_ret
    exact ⟨rfl, Below.refl _ _⟩
  have hn' := hn rfl
  clear hn
  go_wp2_with fail
  refine (tooBig20 a n c country cc rb _ hs hn').mono ?_
  rintro e w1 ⟨⟨b, rfl⟩, rfl⟩
  cases b
  rotate_left
  · go_wp2
    go_ret
    exact ⟨rfl, Below.refl _ _⟩
  go_wp2_with fail
  refine (toCatalog22 a n c cc rb _ hs hn').mono ?_
  rintro e w2 ⟨rfl, hs2, hb2⟩
  go_wp2_with fail
  refine (zzTaxRate21 _ n n country cc rb _ hs2 hn' r f HR.out).mono ?_
  rintro e w3 ⟨rfl, hb3⟩
  go_wp2_with fail
  have hb23 : Below w1.heap.size w1 w3 := hb2.trans (hb3.mono hb2.size)
  refine (trModel23 a n c country cc rb _ (hs.later hb23) hn' r f HR.out).mono ?_
  rintro e w4 ⟨rfl, hb4⟩
  go_wp2
  go_ret
  exact ⟨by simp, hb23.trans (hb4.mono hb23.size)⟩
end Go.Proofs.Qxb6600975a
