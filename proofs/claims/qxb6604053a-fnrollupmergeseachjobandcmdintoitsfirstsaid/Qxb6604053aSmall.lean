import Derived.Test.Qxb6604053aRoll
namespace Go.Proofs.Qxb6604053a
open Go.RowKit

theorem zzRollup8 (B n : Nat) (R : Nat → Rc) (w : World) (h0 : Recs w B n R) (hB : B < w.heap.size) (hn : n ≤ 1048576) (hok : Hid (∀ i, i < n → (R i).ok)) :
    Calls Try.prog 8 #[.slice (some ⟨B, 0, none⟩) n n] w fun e w' => ∃ m O M, e = .returned (.slice (some ⟨B, 0, none⟩) m n) ∧ Roll R n m O M ∧ Recs w' B n (mix O R m) ∧ w.grownBy w' (some B) := by
  go_enter Try.func8, Try.ntmps8
  go_wp2_with (go_at_call 17; refine (rollup17 B n R w h0 hB hn hok).mono ?_; rintro e w1 ⟨m, O, M, rfl, h1, h2, h3⟩)
  go_ret
  exact ⟨m, O, M, rfl, h1, h2, h3⟩
theorem grouped9 (r : Rc) (w : World) : Calls Try.prog 9 #[r.val] w fun e w' => e = .returned (.bool r.grp) ∧ w.grownBy w' none := by
  go_enter Try.func9, Try.ntmps9
  cases hj : (r.job == 0)
  · have hj2 : (r.job != 0) = true := by rw [bne, hj]; rfl
    have hj3 : ¬ r.job = 0 := by intro h; rw [h] at hj; cases hj
    cases hs : (r.state.toList == [])
    · have HG : Hid (r.grp = true) := by show _ = _; unfold Rc.grp; rw [hj, hs]; rfl
      go_wp2_with (first
        | ((with_reducible refine wpList_box_rec rfl 36 _ rfl r ?_ w.heap.size rfl ?_); rfl; intro w1 hb1 hg1 hs1; have c16 : w1.cell? ⟨w.heap.size, 16, none⟩ = some (.int .u64 r.job) := RecAt.of_row hb1 16 (by decide); have c2 : w1.cell? ⟨w.heap.size, 2, none⟩ = some (.string r.state) := RecAt.of_row hb1 2 (by decide)))
      go_ret
      exact ⟨by rw [HG.out]; rfl, hg1⟩
    · have HG : Hid (r.grp = false) := by show _ = _; unfold Rc.grp; rw [hj, hs]; rfl
      go_wp2_with (first
        | ((with_reducible refine wpList_box_rec rfl 36 _ rfl r ?_ w.heap.size rfl ?_); rfl; intro w1 hb1 hg1 hs1; have c16 : w1.cell? ⟨w.heap.size, 16, none⟩ = some (.int .u64 r.job) := RecAt.of_row hb1 16 (by decide); have c2 : w1.cell? ⟨w.heap.size, 2, none⟩ = some (.string r.state) := RecAt.of_row hb1 2 (by decide)))
      go_ret
      exact ⟨by rw [HG.out]; rfl, hg1⟩
  · have HG : Hid (r.grp = false) := by show _ = _; unfold Rc.grp; rw [hj]; rfl
    have hj2 : (r.job != 0) = false := by rw [bne, hj]; rfl
    go_wp2_with (first
      | ((with_reducible refine wpList_box_rec rfl 36 _ rfl r ?_ w.heap.size rfl ?_); rfl; intro w1 hb1 hg1 hs1; have c16 : w1.cell? ⟨w.heap.size, 16, none⟩ = some (.int .u64 r.job) := RecAt.of_row hb1 16 (by decide)))
    go_ret
    exact ⟨by rw [HG.out]; rfl, hg1⟩
/-- The call has handed back a number. -/
def IsInt (e : Ending) : Prop := ∃ z : Int, e = .returned (.int .i64 z)
theorem addLen16 (x y : Int) (w : World) : Calls Try.prog 16 #[.int .i64 x, .int .i64 y] w fun e w' => IsInt e ∧ w' = w := by
  go_enter Try.func16, Try.ntmps16
  go_wp2
  all_goals
    go_ret
    exact ⟨⟨_, rfl⟩, rfl⟩
theorem In.cell {w : World} {a : Option Addr} {n : Nat} {R : Nat → Rc} (h : In w a n R) {k : Nat} (hk : k < n) : ∃ b off, a = some ⟨b, off, none⟩ ∧ b < w.heap.size ∧ RecAt w b (off + k * 19) (R k) := by
  obtain ⟨b, off, ha, hb, hc⟩ := h (by omega)
  exact ⟨b, off, ha, hb, hc k hk⟩

set_option maxRecDepth 100000 in
set_option maxHeartbeats 2000000 in
theorem recBytes6 (a : Option Addr) (n c : Nat) (R : Nat → Rc) (w : World) (hs : In w a n R) (hn : n ≤ 4096) :
    Calls Try.prog 6 #[.slice a n c] w fun e w' => IsInt e ∧ w' = w := by
  go_enter Try.func6, Try.ntmps6
  go_wp2
  go_loop [3, 4] (fun z i => ∃ (k : Nat) (q : Int), k ≤ n ∧ i = .int .i64 k ∧ z = .int .i64 q) (fun _ i => n - (intOf i).toNat)
  case atStart => exact ⟨0, _, Nat.zero_le _, rfl, rfl⟩
  case round =>
    obtain ⟨k, q, hk, rfl, rfl⟩ := hrel
    by_cases hlt : k < n
    · obtain ⟨b, off, rfl, hb, hc⟩ := hs.cell hlt
      have d1 : w.cell? ⟨b, off + k * 19 + 1, none⟩ = some (.string (R k).comm) := hc 1 (by decide)
      have d2 : w.cell? ⟨b, off + k * 19 + 2, none⟩ = some (.string (R k).state) := hc 2 (by decide)
      have d14 : w.cell? ⟨b, off + k * 19 + 14, none⟩ = some (.string (R k).cgroup) := hc 14 (by decide)
      have d15 : w.cell? ⟨b, off + k * 19 + 15, none⟩ = some (.string (R k).user) := hc 15 (by decide)
      have hlt' : (k : Int) < n := by omega
      clear hs hc
      go_wp2_with (go_at_call 16; refine (addLen16 _ _ _).mono ?_; rintro e w1 ⟨⟨z, rfl⟩, rfl⟩)
      all_goals first
        | (go_ret; exact ⟨⟨_, rfl⟩, rfl⟩)
        | skip
      all_goals
        go_round
        case rel => exact ⟨k + 1, _, by omega, by go_num, rfl⟩
        case measure => simp [intOf]; omega
    · have hge : (n : Int) ≤ k := by omega
      go_wp2
      go_ret
      exact ⟨⟨_, rfl⟩, rfl⟩

set_option maxRecDepth 100000 in
set_option maxHeartbeats 2000000 in
theorem zzBytes15 (a : Option Addr) (n c : Nat) (R : Nat → Rc) (w : World) (hs : In w a n R) :
    Calls Try.prog 15 #[.slice a n c] w fun e w' => IsBoolIf (n ≤ 1048576) e ∧ w' = w := by
  go_enter Try.func15, Try.ntmps15
  by_cases g1 : (1048576 : Int) < n
  · go_wp2
    go_ret
    exact ⟨⟨false, rfl, fun h => by cases h⟩, rfl⟩
  have g1' : n ≤ 1048576 := by omega
  go_wp2
  go_loop [3, 4] (fun z i => ∃ (k : Nat) (q : Int), k ≤ n ∧ i = .int .i64 k ∧ z = .int .i64 q) (fun _ i => n - (intOf i).toNat)
  case atStart => exact ⟨0, _, Nat.zero_le _, rfl, rfl⟩
  case round =>
    obtain ⟨k, q, hk, rfl, rfl⟩ := hrel
    by_cases hlt : k < n
    · obtain ⟨b, off, rfl, hb, hc⟩ := hs.cell hlt
      have d1 : w.cell? ⟨b, off + k * 19 + 1, none⟩ = some (.string (R k).comm) := hc 1 (by decide)
      have d2 : w.cell? ⟨b, off + k * 19 + 2, none⟩ = some (.string (R k).state) := hc 2 (by decide)
      have d14 : w.cell? ⟨b, off + k * 19 + 14, none⟩ = some (.string (R k).cgroup) := hc 14 (by decide)
      have d15 : w.cell? ⟨b, off + k * 19 + 15, none⟩ = some (.string (R k).user) := hc 15 (by decide)
      have hlt' : (k : Int) < n := by omega
      clear hs hc
      go_wp2
      all_goals first
        | (go_ret; exact ⟨⟨_, rfl, fun _ => by first | exact g1' | trivial⟩, rfl⟩)
        | skip
      all_goals
        go_round
        case rel => exact ⟨k + 1, _, by omega, by go_num, rfl⟩
        case measure => simp [intOf]; omega
    · have hge : (n : Int) ≤ k := by omega
      go_wp2
      go_ret
      exact ⟨⟨true, rfl, fun _ => by first | exact g1' | trivial⟩, rfl⟩
end Go.Proofs.Qxb6604053a
