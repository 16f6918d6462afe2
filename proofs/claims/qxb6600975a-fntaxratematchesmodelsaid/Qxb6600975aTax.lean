import Derived.Test.Qxb6600975aKit
namespace Go.Proofs.Qxb6600975a
open Go.RowKit

/-- A slice of rows (a text, a number): where it has rows they lie at its address, below the heap's end. -/
def TaxRows (w : World) (a : Option Addr) (n : Nat) (cc : Nat → ByteArray) (rb : Nat → Int) : Prop :=
  0 < n → ∃ b off, a = some ⟨b, off, none⟩ ∧ b < w.heap.size ∧ ∀ i, i < n → w.cell? ⟨b, off + i * 2, none⟩ = some (.string (cc i)) ∧ w.cell? ⟨b, off + i * 2 + 1, none⟩ = some (.int .i64 (rb i))
theorem TaxRows.later {w w' : World} {a : Option Addr} {n : Nat} {cc : Nat → ByteArray} {rb : Nat → Int} (h : TaxRows w a n cc rb) (hb : Below w.heap.size w w') : TaxRows w' a n cc rb := by
  intro hn
  obtain ⟨b, off, ha, hlt, hc⟩ := h hn
  exact ⟨b, off, ha, Nat.lt_of_lt_of_le hlt hb.size, fun i hi => ⟨(hb.cell (p := ⟨b, off + i * 2, none⟩) hlt).trans (hc i hi).1, (hb.cell (p := ⟨b, off + i * 2 + 1, none⟩) hlt).trans (hc i hi).2⟩⟩

set_option maxHeartbeats 800000 in
theorem zzBytes19 (a : Option Addr) (n c : Nat) (country : ByteArray) (cc : Nat → ByteArray) (rb : Nat → Int) (w : World) (hs : TaxRows w a n cc rb) :
    Calls Try.prog 19 #[.slice a n c, .string country] w fun e w' => IsBoolIf (n ≤ 1048576) e ∧ w' = w := by
  go_enter Try.func19, Try.ntmps19
  by_cases g1 : (1048576 : Int) < n
  · go_wp2
    go_ret
    exact ⟨⟨false, rfl, fun h => by cases h⟩, rfl⟩
  have g1' : n ≤ 1048576 := by omega
  go_wp2
  go_loop [5, 6] (fun z i => ∃ (k : Nat) (q : Int), k ≤ n ∧ i = .int .i64 k ∧ z = .int .i64 q) (fun _ i => n - (intOf i).toNat)
  case atStart => exact ⟨0, _, Nat.zero_le _, rfl, rfl⟩
  case round =>
    obtain ⟨k, q, hk, rfl, rfl⟩ := hrel
    by_cases hlt : k < n
    · obtain ⟨b, off, rfl, hb, hc⟩ := hs (by omega)
      have hck := (hc k hlt).1
      have hlt' : (k : Int) < n := by omega
      clear hs hc
      go_wp2
      all_goals first
        | (go_ret; exact ⟨⟨_, rfl, fun _ => by first | exact g1' | trivial⟩, rfl⟩)
        | skip
      all_goals
        go_round
        case rel => exact ⟨k + 1, _, by omega, by go_num, rfl⟩
        case measure => simp [intOf]; omega
    · have hge : (n : Int) ≤ k := by omega
      clear hlt
      go_wp2
      all_goals (go_ret; exact ⟨⟨_, rfl, fun _ => by first | exact g1' | trivial⟩, rfl⟩)

set_option maxHeartbeats 800000 in
theorem tooBig20 (a : Option Addr) (n c : Nat) (country : ByteArray) (cc : Nat → ByteArray) (rb : Nat → Int) (w : World) (hs : TaxRows w a n cc rb) (hn : n ≤ 1048576) :
    Calls Try.prog 20 #[.slice a n c, .string country] w fun e w' => IsBool e ∧ w' = w := by
  go_enter Try.func20, Try.ntmps20
  by_cases g1 : (65536 : Int) < n
  · go_wp2
    go_ret
    exact ⟨⟨_, rfl⟩, rfl⟩
  by_cases g2 : (1048576 : Int) < country.size
  · go_wp2
    go_ret
    exact ⟨⟨_, rfl⟩, rfl⟩
  by_cases g3 : (1048576 : Int) < country.size + 24 * n
  · go_wp2
    go_ret
    exact ⟨⟨_, rfl⟩, rfl⟩
  go_wp2
  go_loop [5, 6] (fun z i => ∃ (k : Nat) (q : Int), k ≤ n ∧ i = .int .i64 k ∧ z = .int .i64 q) (fun _ i => n - (intOf i).toNat)
  case atStart => exact ⟨0, _, Nat.zero_le _, rfl, rfl⟩
  case round =>
    obtain ⟨k, q, hk, rfl, rfl⟩ := hrel
    by_cases hlt : k < n
    · obtain ⟨b, off, rfl, hb, hc⟩ := hs (by omega)
      have hck := (hc k hlt).1
      have hlt' : (k : Int) < n := by omega
      clear hs hc
      go_wp2
      all_goals first
        | (go_ret; exact ⟨⟨_, rfl⟩, rfl⟩)
        | skip
      all_goals
        go_round
        case rel => exact ⟨k + 1, _, by omega, by go_num, rfl⟩
        case measure => simp [intOf]; omega
    · have hge : (n : Int) ≤ k := by omega
      clear hlt
      go_wp2
      all_goals (go_ret; exact ⟨⟨_, rfl⟩, rfl⟩)

theorem info57 : (Try.prog.info? 57).map (fun i => (i.zero, i.size, i.bytes)) = some (some (.agg #[.string ⟨#[]⟩, .int .i64 0]), 2, 24) := by kernel_rfl

set_option maxHeartbeats 800000 in
theorem toCatalog22 (a : Option Addr) (n c : Nat) (cc : Nat → ByteArray) (rb : Nat → Int) (w : World) (hs : TaxRows w a n cc rb) (hn : n ≤ 1048576) :
    Calls Try.prog 22 #[.slice a n c] w fun e w' => e = .returned (.slice (some ⟨w.heap.size, 0, none⟩) n n) ∧ TaxRows w' (some ⟨w.heap.size, 0, none⟩) n cc rb ∧ Below w.heap.size w w' := by
  go_enter Try.func22, Try.ntmps22
  go_wp2_with (first
    | ((with_reducible refine wpList_make_abs rfl (.tmp 6) (.tmp 6) 43 rfl 57 _ 2 24 Try.underlying43 info57 n (n : Int) ?_ ?_ rfl ?_ ?_ ?_); rfl; rfl; omega; omega; intro w1 hA hb1 hs1))
  have hrow := made_rowIs hA
  clear hA
  go_loopw [4] (fun i wr => ∃ k : Nat, k ≤ n ∧ i = .int .i64 k ∧ (∃ f, wr.rowIs w.heap.size 57 (n * 2) f ∧ ∀ t, t < k → f (t * 2) = .string (cc t) ∧ f (t * 2 + 1) = .int .i64 (rb t)) ∧ Below w.heap.size w wr ∧ w.heap.size < wr.heap.size) (fun i _ => n - (intOf i).toNat)
  case atStart => exact ⟨0, Nat.zero_le _, rfl, ⟨_, hrow, fun t ht => by omega⟩, hb1, by omega⟩
  case round =>
    clear hrow hb1 hs1
    obtain ⟨k, hk, rfl, ⟨f, hrow, hf⟩, hb1, hs1⟩ := hrel
    have HF : Hid _ := hf
    clear hf
    by_cases hlt : k < n
    · obtain ⟨b, off, rfl, hb, hc⟩ := hs (by omega)
      have hlt' : (k : Int) < n := by omega
      have ck0 : wr.cell? ⟨b, off + k * 2, none⟩ = some (.string (cc k)) := (hb1.cell (by exact hb)).trans (hc k hlt).1
      have ck1 : wr.cell? ⟨b, off + k * 2 + 1, none⟩ = some (.int .i64 (rb k)) := (hb1.cell (by exact hb)).trans (hc k hlt).2
      have c0 := hrow.cell (i := k * 2) (by omega)
      have c1 := hrow.cell (i := k * 2 + 1) (by omega)
      have f0 := hrow.frozen (k * 2)
      have f1 := hrow.frozen (k * 2 + 1)
      generalize f (k * 2) = q0 at c0
      generalize f (k * 2 + 1) = q1 at c1
      clear hs hc
      go_wp2
      go_region
      all_goals
        go_wp2
        go_roundw
        case rel =>
          refine ⟨k + 1, by omega, by go_num, ⟨_, (hrow.set (k * 2) _).set (k * 2 + 1) _, ?_⟩, ((hb1.setCell (Nat.le_refl _) _).setCell (Nat.le_refl _) _).drew, by simpa using hs1⟩
          intro t ht
          show (if t * 2 = k * 2 + 1 then _ else if t * 2 = k * 2 then _ else _) = _ ∧ (if t * 2 + 1 = k * 2 + 1 then _ else if t * 2 + 1 = k * 2 then _ else _) = _
          by_cases e : t = k
          · subst e; rw [if_neg (by omega), if_pos rfl, if_pos rfl]; exact ⟨rfl, rfl⟩
          · rw [if_neg (by omega), if_neg (by omega), if_neg (by omega), if_neg (by omega)]; exact HF.out t (by omega)
        case measure => simp [intOf]; omega
    · have hge : (n : Int) ≤ k := by omega
      clear hlt
      go_wp2
      go_ret
      refine ⟨rfl, fun _ => ⟨w.heap.size, 0, rfl, hs1, fun t ht => ?_⟩, hb1⟩
      rw [Nat.zero_add, hrow.cell (i := t * 2) (by omega), hrow.cell (i := t * 2 + 1) (by omega), (HF.out t (by omega)).1, (HF.out t (by omega)).2]
      exact ⟨rfl, rfl⟩
end Go.Proofs.Qxb6600975a
