import Derived.Test.Qxb6600975aMaps
namespace Go.Proofs.Qxb6600975a
open Go.RowKit

/-- What the rows hold, row by row. -/
structure Ship where
  id : Nat → ByteArray
  cc : Nat → ByteArray
  lv : Nat → ByteArray
  pr : Nat → Int
  tt : Nat → ByteArray

/-- A slice of shipping rows: where it has rows they lie at its address, below the heap's end. -/
def ShipRows (w : World) (a : Option Addr) (n : Nat) (R : Ship) : Prop :=
  0 < n → ∃ b off, a = some ⟨b, off, none⟩ ∧ b < w.heap.size ∧ ∀ i, i < n → w.cell? ⟨b, off + i * 5, none⟩ = some (.string (R.id i)) ∧ w.cell? ⟨b, off + i * 5 + 1, none⟩ = some (.string (R.cc i)) ∧
    w.cell? ⟨b, off + i * 5 + 2, none⟩ = some (.string (R.lv i)) ∧ w.cell? ⟨b, off + i * 5 + 3, none⟩ = some (.int .i64 (R.pr i)) ∧ w.cell? ⟨b, off + i * 5 + 4, none⟩ = some (.string (R.tt i))
theorem ShipRows.later {w w' : World} {a : Option Addr} {n : Nat} {R : Ship} (h : ShipRows w a n R) (hb : Below w.heap.size w w') : ShipRows w' a n R := by
  intro hn
  obtain ⟨b, off, ha, hlt, hc⟩ := h hn
  refine ⟨b, off, ha, Nat.lt_of_lt_of_le hlt hb.size, fun i hi => ?_⟩
  obtain ⟨c0, c1, c2, c3, c4⟩ := hc i hi
  have k : ∀ o, w'.cell? ⟨b, o, none⟩ = w.cell? ⟨b, o, none⟩ := fun o => hb.cell (p := ⟨b, o, none⟩) hlt
  exact ⟨(k _).trans c0, (k _).trans c1, (k _).trans c2, (k _).trans c3, (k _).trans c4⟩

set_option maxRecDepth 100000 in
set_option maxHeartbeats 800000 in
theorem zzBytes8 (a : Option Addr) (n c : Nat) (country : ByteArray) (R : Ship) (w : World) (hs : ShipRows w a n R) :
    Calls Try.prog 8 #[.slice a n c, .string country] w fun e w' => IsBoolIf (n ≤ 1048576) e ∧ w' = w := by
  go_enter Try.func8, Try.ntmps8
  by_cases g1 : (1048576 : Int) < n
  · go_wp2
    go_ret
    exact ⟨⟨false, rfl, fun h => by cases h⟩, rfl⟩
  have g1' : n ≤ 1048576 := by omega
  go_wp2
  go_loop [5, 6] (fun z i => ∃ (k : Nat) (q : Int), k ≤ n ∧ i = .int .i64 k ∧ z = .int .i64 q) (fun _ i => n - (intOf i).toNat)
  case atStart => exact ⟨0, _, Nat.zero_le _, rfl, rfl⟩
  case round =>
    obtain ⟨k, q, hk, rfl, rfl⟩ := hrel
    by_cases hlt : k < n
    · obtain ⟨b, off, rfl, hb, hc⟩ := hs (by omega)
      obtain ⟨c0, c1, c2, _, c4⟩ := hc k hlt
      have hlt' : (k : Int) < n := by omega
      clear hs hc
      go_wp2
      all_goals first
        | (go_ret; exact ⟨⟨_, rfl, fun _ => by first | exact g1' | trivial⟩, rfl⟩)
        | skip
      all_goals
        go_round
        case rel => exact ⟨k + 1, _, by omega, by go_num, rfl⟩
        case measure => simp [intOf]; omega
    · have hge : (n : Int) ≤ k := by omega
      clear hlt
      go_wp2
      all_goals (go_ret; exact ⟨⟨_, rfl, fun _ => by first | exact g1' | trivial⟩, rfl⟩)

set_option maxRecDepth 100000 in
set_option maxHeartbeats 800000 in
theorem tooBig9 (a : Option Addr) (n c : Nat) (country : ByteArray) (R : Ship) (w : World) (hs : ShipRows w a n R) (hn : n ≤ 1048576) :
    Calls Try.prog 9 #[.slice a n c, .string country] w fun e w' => IsBool e ∧ w' = w := by
  go_enter Try.func9, Try.ntmps9
  by_cases g1 : (65536 : Int) < n
  · go_wp2
    go_ret
    exact ⟨⟨_, rfl⟩, rfl⟩
  by_cases g2 : (1048576 : Int) < country.size
  · go_wp2
    go_ret
    exact ⟨⟨_, rfl⟩, rfl⟩
  by_cases g3 : (1048576 : Int) < country.size + 72 * n
  · go_wp2
    go_ret
    exact ⟨⟨_, rfl⟩, rfl⟩
  go_wp2
  go_loop [5, 6] (fun z i => ∃ (k : Nat) (q : Int), k ≤ n ∧ i = .int .i64 k ∧ z = .int .i64 q) (fun _ i => n - (intOf i).toNat)
  case atStart => exact ⟨0, _, Nat.zero_le _, rfl, rfl⟩
  case round =>
    obtain ⟨k, q, hk, rfl, rfl⟩ := hrel
    by_cases hlt : k < n
    · obtain ⟨b, off, rfl, hb, hc⟩ := hs (by omega)
      obtain ⟨c0, c1, c2, _, c4⟩ := hc k hlt
      have hlt' : (k : Int) < n := by omega
      clear hs hc
      go_wp2
      all_goals first
        | (go_ret; exact ⟨⟨_, rfl⟩, rfl⟩)
        | skip
      all_goals
        go_round
        case rel => exact ⟨k + 1, _, by omega, by go_num, rfl⟩
        case measure => simp [intOf]; omega
    · have hge : (n : Int) ≤ k := by omega
      clear hlt
      go_wp2
      all_goals (go_ret; exact ⟨⟨_, rfl⟩, rfl⟩)

theorem info49 : (Try.prog.info? 49).map (fun i => (i.zero, i.size, i.bytes)) = some (some (.agg #[.string ⟨#[]⟩, .string ⟨#[]⟩, .string ⟨#[]⟩, .int .i64 0, .string ⟨#[]⟩]), 5, 72) := by kernel_rfl

set_option maxHeartbeats 1600000 in
theorem toCatalog11 (a : Option Addr) (n c : Nat) (R : Ship) (w : World) (hs : ShipRows w a n R) (hn : n ≤ 1048576) :
    Calls Try.prog 11 #[.slice a n c] w fun e w' => e = .returned (.slice (some ⟨w.heap.size, 0, none⟩) n n) ∧ ShipRows w' (some ⟨w.heap.size, 0, none⟩) n R ∧ Below w.heap.size w w' := by
  go_enter Try.func11, Try.ntmps11
  go_wp2_with (first
    | ((with_reducible refine wpList_make_abs rfl (.tmp 6) (.tmp 6) 26 rfl 49 _ 5 72 Try.underlying26 info49 n (n : Int) ?_ ?_ rfl ?_ ?_ ?_); rfl; rfl; omega; omega; intro w1 hA hb1 hs1))
  have hrow := made_rowIs hA
  clear hA
  go_loopw [4] (fun i wr => ∃ k : Nat, k ≤ n ∧ i = .int .i64 k ∧ (∃ f, wr.rowIs w.heap.size 49 (n * 5) f ∧ ∀ t, t < k → f (t * 5) = .string (R.id t) ∧ f (t * 5 + 1) = .string (R.cc t) ∧ f (t * 5 + 2) = .string (R.lv t) ∧ f (t * 5 + 3) = .int .i64 (R.pr t) ∧ f (t * 5 + 4) = .string (R.tt t)) ∧ Below w.heap.size w wr ∧ w.heap.size < wr.heap.size) (fun i _ => n - (intOf i).toNat)
  case atStart => exact ⟨0, Nat.zero_le _, rfl, ⟨_, hrow, fun t ht => by omega⟩, hb1, by omega⟩
  case round =>
    clear hrow hb1 hs1
    obtain ⟨k, hk, rfl, ⟨f, hrow, hf⟩, hb1, hs1⟩ := hrel
    have HF : Hid _ := hf
    clear hf
    by_cases hlt : k < n
    · obtain ⟨b, off, rfl, hb, hc⟩ := hs (by omega)
      have hlt' : (k : Int) < n := by omega
      have kc : ∀ o, wr.cell? ⟨b, o, none⟩ = w.cell? ⟨b, o, none⟩ := fun o => hb1.cell (p := ⟨b, o, none⟩) hb
      obtain ⟨d0, d1, d2, d3, d4⟩ := hc k hlt
      rw [← kc] at d0 d1 d2 d3 d4
      have c0 := hrow.cell (i := k * 5) (by omega)
      have c1 := hrow.cell (i := k * 5 + 1) (by omega)
      have c2 := hrow.cell (i := k * 5 + 2) (by omega)
      have c3 := hrow.cell (i := k * 5 + 3) (by omega)
      have c4 := hrow.cell (i := k * 5 + 4) (by omega)
      have f0 := hrow.frozen (k * 5)
      have f1 := hrow.frozen (k * 5 + 1)
      have f2 := hrow.frozen (k * 5 + 2)
      have f3 := hrow.frozen (k * 5 + 3)
      have f4 := hrow.frozen (k * 5 + 4)
      generalize f (k * 5) = q0 at c0
      generalize f (k * 5 + 1) = q1 at c1
      generalize f (k * 5 + 2) = q2 at c2
      generalize f (k * 5 + 3) = q3 at c3
      generalize f (k * 5 + 4) = q4 at c4
      clear hs hc kc
      go_wp2
      go_region
      all_goals
        go_wp2
        go_roundw
        case rel =>
          refine ⟨k + 1, by omega, by go_num, ⟨_, ((((hrow.set (k * 5) _).set (k * 5 + 1) _).set (k * 5 + 2) _).set (k * 5 + 3) _).set (k * 5 + 4) _, ?_⟩, (((((hb1.setCell (Nat.le_refl _) _).setCell (Nat.le_refl _) _).setCell (Nat.le_refl _) _).setCell (Nat.le_refl _) _).setCell (Nat.le_refl _) _).drew, by simpa using hs1⟩
          intro t ht
          by_cases e : t = k
          · subst e
            refine ⟨?_, ?_, ?_, ?_, ?_⟩
            · show (if t * 5 = t * 5 + 4 then _ else if t * 5 = t * 5 + 3 then _ else if t * 5 = t * 5 + 2 then _ else if t * 5 = t * 5 + 1 then _ else if t * 5 = t * 5 then _ else _) = _
              rw [if_neg (by omega), if_neg (by omega), if_neg (by omega), if_neg (by omega), if_pos rfl]
            · show (if t * 5 + 1 = t * 5 + 4 then _ else if t * 5 + 1 = t * 5 + 3 then _ else if t * 5 + 1 = t * 5 + 2 then _ else if t * 5 + 1 = t * 5 + 1 then _ else _) = _
              rw [if_neg (by omega), if_neg (by omega), if_neg (by omega), if_pos rfl]
            · show (if t * 5 + 2 = t * 5 + 4 then _ else if t * 5 + 2 = t * 5 + 3 then _ else if t * 5 + 2 = t * 5 + 2 then _ else _) = _
              rw [if_neg (by omega), if_neg (by omega), if_pos rfl]
            · show (if t * 5 + 3 = t * 5 + 4 then _ else if t * 5 + 3 = t * 5 + 3 then _ else _) = _
              rw [if_neg (by omega), if_pos rfl]
            · show (if t * 5 + 4 = t * 5 + 4 then _ else _) = _
              rw [if_pos rfl]
          · have hkeep : ∀ j, j < 5 → (if t * 5 + j = k * 5 + 4 then Value.string (R.tt k) else if t * 5 + j = k * 5 + 3 then .int .i64 (R.pr k) else if t * 5 + j = k * 5 + 2 then .string (R.lv k) else if t * 5 + j = k * 5 + 1 then .string (R.cc k) else if t * 5 + j = k * 5 then .string (R.id k) else f (t * 5 + j)) = f (t * 5 + j) := by
              intro j hj
              rw [if_neg (by omega), if_neg (by omega), if_neg (by omega), if_neg (by omega), if_neg (by omega)]
            obtain ⟨e0, e1, e2, e3, e4⟩ := HF.out t (by omega)
            exact ⟨(hkeep 0 (by omega)).trans e0, (hkeep 1 (by omega)).trans e1, (hkeep 2 (by omega)).trans e2, (hkeep 3 (by omega)).trans e3, (hkeep 4 (by omega)).trans e4⟩
        case measure => simp [intOf]; omega
    · have hge : (n : Int) ≤ k := by omega
      clear hlt
      go_wp2
      go_ret
      refine ⟨rfl, fun _ => ⟨w.heap.size, 0, rfl, hs1, fun t ht => ?_⟩, hb1⟩
      obtain ⟨e0, e1, e2, e3, e4⟩ := HF.out t (by omega)
      rw [Nat.zero_add, hrow.cell (i := t * 5) (by omega), hrow.cell (i := t * 5 + 1) (by omega), hrow.cell (i := t * 5 + 2) (by omega), hrow.cell (i := t * 5 + 3) (by omega), hrow.cell (i := t * 5 + 4) (by omega), e0, e1, e2, e3, e4]
      exact ⟨rfl, rfl, rfl, rfl, rfl⟩
end Go.Proofs.Qxb6600975a
