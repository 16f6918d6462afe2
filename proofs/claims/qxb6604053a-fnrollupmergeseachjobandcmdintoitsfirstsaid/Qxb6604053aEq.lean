import Derived.Test.Qxb6604053aSmall
import Derived.Test.Qxb6604053aMergeLaw
namespace Go.Proofs.Qxb6604053a
open Go.RowKit

set_option maxRecDepth 100000 in
set_option maxHeartbeats 2000000 in
theorem zzBytes5 (a : Option Addr) (n c : Nat) (R : Nat → Rc) (w : World) (hs : In w a n R) :
    Calls Try.prog 5 #[.slice a n c] w fun e w' => IsBoolIf (n ≤ 1048576) e ∧ w' = w := by
  go_enter Try.func5, Try.ntmps5
  by_cases g1 : (1048576 : Int) < n
  · go_wp2
    go_ret
    exact ⟨⟨false, rfl, fun h => by cases h⟩, rfl⟩
  have g1' : n ≤ 1048576 := by omega
  go_wp2
  go_loop [3, 4] (fun z i => ∃ (k : Nat) (q : Int), k ≤ n ∧ i = .int .i64 k ∧ z = .int .i64 q) (fun _ i => n - (intOf i).toNat)
  case atStart => exact ⟨0, _, Nat.zero_le _, rfl, rfl⟩
  case round =>
    obtain ⟨k, q, hk, rfl, rfl⟩ := hrel
    by_cases hlt : k < n
    · obtain ⟨b, off, rfl, hb, hc⟩ := hs.cell hlt
      have d1 : w.cell? ⟨b, off + k * 19 + 1, none⟩ = some (.string (R k).comm) := hc 1 (by decide)
      have d2 : w.cell? ⟨b, off + k * 19 + 2, none⟩ = some (.string (R k).state) := hc 2 (by decide)
      have d14 : w.cell? ⟨b, off + k * 19 + 14, none⟩ = some (.string (R k).cgroup) := hc 14 (by decide)
      have d15 : w.cell? ⟨b, off + k * 19 + 15, none⟩ = some (.string (R k).user) := hc 15 (by decide)
      have hlt' : (k : Int) < n := by omega
      clear hs hc
      go_wp2
      all_goals first
        | (go_ret; exact ⟨⟨_, rfl, fun _ => by first | exact g1' | trivial⟩, rfl⟩)
        | skip
      all_goals
        go_round
        case rel => exact ⟨k + 1, _, by omega, by go_num, rfl⟩
        case measure => simp [intOf]; omega
    · have hge : (n : Int) ≤ k := by omega
      go_wp2
      go_ret
      exact ⟨⟨true, rfl, fun _ => by first | exact g1' | trivial⟩, rfl⟩

theorem sameKey11 (a b : Rc) (w : World) : Calls Try.prog 11 #[a.val, b.val] w fun e w' => e = .returned (.bool (sameK a b)) ∧ w.grownBy w' none := by
  go_enter Try.func11, Try.ntmps11
  cases hj : (a.job == b.job)
  · have HG : Hid (sameK a b = false) := by show _ = _; unfold sameK; rw [hj]; rfl
    go_wp2_with (first
      | ((with_reducible refine wpList_box_rec rfl 36 _ rfl a ?_ w.heap.size rfl ?_); rfl; intro w1 hb1 hg1 hs1)
      | ((with_reducible refine wpList_box_rec rfl 36 _ rfl b ?_ (w.heap.size + 1) hs1 ?_); rfl; intro w2 hb2 hg2 hs2; have p16 : w2.cell? ⟨w.heap.size, 16, none⟩ = some (.int .u64 a.job) := (RecAt.of_row hb1).kept (hg2.block _ (by omega) (by simp)) 16 (by decide); have q16 : w2.cell? ⟨w.heap.size + 1, 16, none⟩ = some (.int .u64 b.job) := RecAt.of_row hb2 16 (by decide); have p1 : w2.cell? ⟨w.heap.size, 1, none⟩ = some (.string a.comm) := (RecAt.of_row hb1).kept (hg2.block _ (by omega) (by simp)) 1 (by decide); have q1 : w2.cell? ⟨w.heap.size + 1, 1, none⟩ = some (.string b.comm) := RecAt.of_row hb2 1 (by decide)))
    go_ret
    exact ⟨by rw [HG.out]; rfl, grownBy_trans hg1 hg2⟩
  · cases hc : (a.comm.toList == b.comm.toList)
    · have HG : Hid (sameK a b = false) := by show _ = _; unfold sameK; rw [hj, hc]; rfl
      go_wp2_with (first
        | ((with_reducible refine wpList_box_rec rfl 36 _ rfl a ?_ w.heap.size rfl ?_); rfl; intro w1 hb1 hg1 hs1)
        | ((with_reducible refine wpList_box_rec rfl 36 _ rfl b ?_ (w.heap.size + 1) hs1 ?_); rfl; intro w2 hb2 hg2 hs2; have p16 : w2.cell? ⟨w.heap.size, 16, none⟩ = some (.int .u64 a.job) := (RecAt.of_row hb1).kept (hg2.block _ (by omega) (by simp)) 16 (by decide); have q16 : w2.cell? ⟨w.heap.size + 1, 16, none⟩ = some (.int .u64 b.job) := RecAt.of_row hb2 16 (by decide); have p1 : w2.cell? ⟨w.heap.size, 1, none⟩ = some (.string a.comm) := (RecAt.of_row hb1).kept (hg2.block _ (by omega) (by simp)) 1 (by decide); have q1 : w2.cell? ⟨w.heap.size + 1, 1, none⟩ = some (.string b.comm) := RecAt.of_row hb2 1 (by decide)))
      go_ret
      exact ⟨by rw [HG.out]; rfl, grownBy_trans hg1 hg2⟩
    · have HG : Hid (sameK a b = true) := by show _ = _; unfold sameK; rw [hj, hc]; rfl
      go_wp2_with (first
        | ((with_reducible refine wpList_box_rec rfl 36 _ rfl a ?_ w.heap.size rfl ?_); rfl; intro w1 hb1 hg1 hs1)
        | ((with_reducible refine wpList_box_rec rfl 36 _ rfl b ?_ (w.heap.size + 1) hs1 ?_); rfl; intro w2 hb2 hg2 hs2; have p16 : w2.cell? ⟨w.heap.size, 16, none⟩ = some (.int .u64 a.job) := (RecAt.of_row hb1).kept (hg2.block _ (by omega) (by simp)) 16 (by decide); have q16 : w2.cell? ⟨w.heap.size + 1, 16, none⟩ = some (.int .u64 b.job) := RecAt.of_row hb2 16 (by decide); have p1 : w2.cell? ⟨w.heap.size, 1, none⟩ = some (.string a.comm) := (RecAt.of_row hb1).kept (hg2.block _ (by omega) (by simp)) 1 (by decide); have q1 : w2.cell? ⟨w.heap.size + 1, 1, none⟩ = some (.string b.comm) := RecAt.of_row hb2 1 (by decide)))
      go_ret
      exact ⟨by rw [HG.out]; rfl, grownBy_trans hg1 hg2⟩

theorem sameFloat18 (x y : Nat) (w : World) (h : FSim x y) : Calls Try.prog 18 #[.float .f64 x, .float .f64 y] w fun e w' => e = .returned (.bool true) ∧ w' = w := by
  by_cases hn : NaN x
  · have hy : NaN y := by rcases h with rfl | h; exact hn; exact h.2
    have h1 := nan_order hn x
    have h2 := nan_order hy y
    clear hn hy h
    go_enter Try.func18, Try.ntmps18
    go_wp2
    go_ret
    exact ⟨rfl, rfl⟩
  · obtain rfl : x = y := by rcases h with h | h; exact h; exact absurd h.1 hn
    have h1 := order_self hn
    by_cases hz : FloatKind.f64.format.order x 0 = some .eq
    · obtain ⟨z, h3, h4⟩ := div_zero hz
      have hrun := fun W : World => run_float_arith (P := Try.prog) W .quo 32 .f64 4607182418800017408 x z h3
      clear h hn
      go_enter Try.func18, Try.ntmps18
      go_wp2
      go_ret
      exact ⟨rfl, rfl⟩
    · have hz' : (FloatKind.f64.format.order x 0 == some .eq) = false := by simpa using hz
      clear h hn
      go_enter Try.func18, Try.ntmps18
      go_wp2
      go_ret
      exact ⟨rfl, rfl⟩
end Go.Proofs.Qxb6604053a
