import Derived.Test.Qxb6604053aSmall
import Derived.Test.Qxb6604053aKeepLaw
import Derived.Deep.DeepCutAuto
namespace Go.Proofs.Qxb6604053a
open Go.RowKit

/-- What the first loop has reckoned over k records. -/
structure Sm1 (R : Nat → Rc) (k : Nat) (x1 x2 x3 x4 x5 x6 xn : Int) (lo : Nat) : Prop where
  a1 : Acc (·.utime) R k x1
  a2 : Acc (·.stime) R k x2
  a3 : Acc (·.vmsize) R k x3
  a4 : Acc (·.vmrss) R k x4
  a5 : Acc (·.anon) R k x5
  a6 : Acc (·.threads) R k x6
  an : AccN R k xn
  al : lo = cntN isLoose R k
/-- What the second loop has left over j records that are out. -/
structure Sm2 (R O : Nat → Rc) (n j : Nat) (x1 x2 x3 x4 x5 x6 xn xl : Int) : Prop where
  a1 : Acc2 (·.utime) R O n j x1
  a2 : Acc2 (·.stime) R O n j x2
  a3 : Acc2 (·.vmsize) R O n j x3
  a4 : Acc2 (·.vmrss) R O n j x4
  a5 : Acc2 (·.anon) R O n j x5
  a6 : Acc2 (·.threads) R O n j x6
  an : AccN2 R O n j xn
  al : xl = (cntN isLoose R n : Int) - cntN isLoose O j

set_option maxRecDepth 100000 in
set_option maxHeartbeats 8000000 in
theorem keep4 (a : Option Addr) (n c : Nat) (R : Nat → Rc) (w : World) (hs : In w a n R) (hok : Hid (∀ i, i < n → (R i).ok)) :
    Calls Try.prog 4 #[.slice a n c] w fun e w' => e = .returned (.bool true) ∧ Below w.heap.size w w' := by
  go_enter Try.func4, Try.ntmps4
  go_upto_if 17 with (go_at_call 15; refine (zzBytes15 a n c R w hs).mono ?_; rintro e w1 ⟨⟨b, rfl, hb⟩, rfl⟩)
  cases b
  · go_wp2
    go_ret
    exact ⟨rfl, Below.refl _ _⟩
  have hn := hb rfl
  clear hb
  by_cases hn4 : (4096 : Int) < n
  · go_wp2
    go_ret
    exact ⟨rfl, Below.refl _ _⟩
  have hn4' : n ≤ 4096 := by omega
  go_upto_if 25 with (go_at_call 6; refine (recBytes6 a n c R _ hs hn4').mono ?_; rintro e w1 ⟨⟨z, rfl⟩, rfl⟩)
  by_cases hz : (1048576 : Int) < z
  · go_wp2
    go_ret
    exact ⟨rfl, Below.refl _ _⟩
  go_upto_if 33 with (first
    | (go_at_call 7; refine (build7 a n c R _ hs hn).mono ?_; rintro e w2 ⟨rfl, hR2, hg2, hs2⟩)
    | (go_at_call 8; refine (zzRollup8 _ n R w2 hR2 hs2 hn hok).mono ?_; rintro e w3 ⟨m, O, M, rfl, hL, hR3, hg3⟩; have hmn' : (m : Int) ≤ n := by { have := hL.le; omega }))
  obtain ⟨B, hBe⟩ : ∃ B, B = w1.heap.size := ⟨_, rfl⟩
  rw [← hBe]
  rw [← hBe] at hR3 hg3
  have hmn := hL.le
  have hb3 : Below w1.heap.size w1 w3 := (below_of hg2).grown hg3 hg2.size (fun q hq => by cases hq; omega)
  have hB3 : B < w3.heap.size := by have := hg3.size; omega
  have HBE : Hid (B = w1.heap.size) := hBe
  have HL : Hid (Roll R n m O M) := hL
  have hs3 : In w3 a n R := hs.later hb3
  clear hR2 hg2 hs2 hg3 hs hL hBe hok
  go_wp2
  rw [show decide (n < m) = false from decide_eq_false (by omega)]
  go_loopw [4, 5, 6, 7, 8, 9, 10, 11, 12, 13] (fun v4 v5 v6 v7 v8 v9 v10 v11 v12 i wr => ∃ (k : Nat) (x1 x2 x3 x4 x5 x6 xn : Int) (lo : Nat), k ≤ n ∧ i = .int .i64 k ∧ v4 = .int .u64 x1 ∧ v5 = .int .u64 x2 ∧ v6 = .int .u64 x3 ∧ v7 = .int .u64 x4 ∧ v8 = .int .u64 x5 ∧ v9 = .int .u64 x6 ∧ v10 = .int .i64 xn ∧ v11 = .int .i64 (lo : Int) ∧ v12 = .bool (azTo R k) ∧ Sm1 R k x1 x2 x3 x4 x5 x6 xn lo ∧ w3.grownBy wr none) (fun _ _ _ _ _ _ _ _ _ i _ => n - (intOf i).toNat)
  case atStart => exact ⟨0, 0, 0, 0, 0, 0, 0, 0, 0, Nat.zero_le _, rfl, rfl, rfl, rfl, rfl, rfl, rfl, rfl, rfl, rfl, ⟨rfl, rfl, rfl, rfl, rfl, rfl, by simp [AccN, sumN, wrap64], rfl⟩, ⟨rfl, rfl, rfl, Nat.le_refl _, fun _ _ _ => rfl⟩⟩
  case round =>
    obtain ⟨k, x1, x2, x3, x4, x5, x6, xn, lo, hk, rfl, rfl, rfl, rfl, rfl, rfl, rfl, rfl, rfl, rfl, hS, hG⟩ := hrel
    have hlo : lo ≤ k := by rw [hS.al]; exact cntN_le _ _ _
    by_cases hlt : k < n
    · obtain ⟨b, off, rfl, hb, hc0⟩ := hs3.cell hlt
      have hlt' : (k : Int) < n := by omega
      have hck := hc0.kept (hG.block b hb (by simp))
      obtain ⟨r, hr⟩ : ∃ r, r = R k := ⟨_, rfl⟩
      rw [← hr] at hck
      have d5 : wr.cell? ⟨b, off + k * 19 + 5, none⟩ = some (.int .u64 r.utime) := hck 5 (by decide)
      have d6 : wr.cell? ⟨b, off + k * 19 + 6, none⟩ = some (.int .u64 r.stime) := hck 6 (by decide)
      have d10 : wr.cell? ⟨b, off + k * 19 + 10, none⟩ = some (.int .u64 r.vmsize) := hck 10 (by decide)
      have d11 : wr.cell? ⟨b, off + k * 19 + 11, none⟩ = some (.int .u64 r.vmrss) := hck 11 (by decide)
      have d12 : wr.cell? ⟨b, off + k * 19 + 12, none⟩ = some (.int .u64 r.anon) := hck 12 (by decide)
      have d13 : wr.cell? ⟨b, off + k * 19 + 13, none⟩ = some (.int .u64 r.threads) := hck 13 (by decide)
      have d18 : wr.cell? ⟨b, off + k * 19 + 18, none⟩ = some (.int .i64 r.rolled) := hck 18 (by decide)
      have HR : Hid (r = R k) := hr
      clear hr hc0 hs3
      cases hrz : (r.rolled != 0)
      all_goals
        cases hgr : r.grp
        all_goals
          go_wp2_with (first
            | ((with_reducible refine wpList_load_rec rfl _ _ rfl b (off + k * 19) ?_ r hck isRow36 ?_); rfl)
            | (go_at_call 9; refine (grouped9 r _).mono ?_; rintro e w4 ⟨he, hg4⟩; rw [hgr] at he; subst he))
          go_roundw
          case rel =>
            have e := HR.out
            have hG4 := grownBy_trans hG hg4
            refine ⟨k + 1, _, _, _, _, _, _, _, cntN isLoose R (k + 1), by omega, by go_num, rfl, rfl, rfl, rfl, rfl, rfl, rfl, ?_, ?_, ⟨?_, ?_, ?_, ?_, ?_, ?_, ?_, rfl⟩, hG4⟩
            · rw [cntN, ← e, isLoose, hgr, hS.al]; go_num
            · first
                | (rw [azTo, ← e, show (r.rolled == 0) = true from by rw [bne] at hrz; simpa using hrz, Bool.and_true])
                | (rw [azTo, ← e, show (r.rolled == 0) = false from by rw [bne] at hrz; simpa using hrz, Bool.and_false])
            · rw [e]; exact hS.a1.step
            · rw [e]; exact hS.a2.step
            · rw [e]; exact hS.a3.step
            · rw [e]; exact hS.a4.step
            · rw [e]; exact hS.a5.step
            · rw [e]; exact hS.a6.step
            · rw [e]; exact hS.an.step
          case measure => simp [intOf]; omega
    · have hge : (n : Int) ≤ k := by omega
      obtain rfl : n = k := by omega
      obtain ⟨w5, rfl⟩ : ∃ w5 : World, w5 = wr := ⟨_, rfl⟩
      clear hlt
      have hR5 : Recs w5 B n (mix O R m) := hR3.kept (hG.block B hB3 (by simp))
      have HD : Hid (Below w1.heap.size w1 w5) := hb3.trans (Below.mono (below_of hG) hb3.size)
      have HAZ : Hid (azTo R n = true → xn = xn) := fun _ => rfl
      have hS2 : Sm2 R O n 0 x1 x2 x3 x4 x5 x6 xn (lo : Int) := ⟨hS.a1.start, hS.a2.start, hS.a3.start, hS.a4.start, hS.a5.start, hS.a6.start, hS.an.start, by rw [hS.al]; show _ = _ - ((0 : Nat) : Int); omega⟩
      clear hR3 hG hb3 hB3 hs3 hS HAZ
      go_wp2
      go_loop [4, 5, 6, 7, 8, 9, 10, 11, 14] (fun v4 v5 v6 v7 v8 v9 v10 v11 i => ∃ (j : Nat) (y1 y2 y3 y4 y5 y6 yn yl : Int), j ≤ m ∧ i = .int .i64 j ∧ v4 = .int .u64 y1 ∧ v5 = .int .u64 y2 ∧ v6 = .int .u64 y3 ∧ v7 = .int .u64 y4 ∧ v8 = .int .u64 y5 ∧ v9 = .int .u64 y6 ∧ v10 = .int .i64 yn ∧ v11 = .int .i64 yl ∧ Sm2 R O n j y1 y2 y3 y4 y5 y6 yn yl) (fun _ _ _ _ _ _ _ _ i => m - (intOf i).toNat)
      case atStart => exact ⟨0, x1, x2, x3, x4, x5, x6, xn, lo, Nat.zero_le _, rfl, rfl, rfl, rfl, rfl, rfl, rfl, rfl, rfl, hS2⟩
      case round =>
        clear hS2
        obtain ⟨j, y1, y2, y3, y4, y5, y6, yn, yl, hj, rfl, rfl, rfl, rfl, rfl, rfl, rfl, rfl, rfl, hS⟩ := hrel
        have hyl : -4096 ≤ yl ∧ yl ≤ 4096 := by
          have h1 := cntN_le isLoose R n
          have h2 := cntN_le isLoose O j
          rw [hS.al]; omega
        obtain ⟨hyl1, hyl2⟩ := hyl
        by_cases hlt : j < m
        · have hlt' : (j : Int) < m := by omega
          have hck := hR5.1 j (by omega)
          rw [mix_lt hlt] at hck
          obtain ⟨r, hr⟩ : ∃ r, r = O j := ⟨_, rfl⟩
          rw [← hr] at hck
          have d5 : w5.cell? ⟨B, j * 19 + 5, none⟩ = some (.int .u64 r.utime) := hck 5 (by decide)
          have d6 : w5.cell? ⟨B, j * 19 + 6, none⟩ = some (.int .u64 r.stime) := hck 6 (by decide)
          have d10 : w5.cell? ⟨B, j * 19 + 10, none⟩ = some (.int .u64 r.vmsize) := hck 10 (by decide)
          have d11 : w5.cell? ⟨B, j * 19 + 11, none⟩ = some (.int .u64 r.vmrss) := hck 11 (by decide)
          have d12 : w5.cell? ⟨B, j * 19 + 12, none⟩ = some (.int .u64 r.anon) := hck 12 (by decide)
          have d13 : w5.cell? ⟨B, j * 19 + 13, none⟩ = some (.int .u64 r.threads) := hck 13 (by decide)
          have d18 : w5.cell? ⟨B, j * 19 + 18, none⟩ = some (.int .i64 r.rolled) := hck 18 (by decide)
          have d16 : w5.cell? ⟨B, j * 19 + 16, none⟩ = some (.int .u64 r.job) := hck 16 (by decide)
          have d2 : w5.cell? ⟨B, j * 19 + 2, none⟩ = some (.string r.state) := hck 2 (by decide)
          have HR : Hid (r = O j) := hr
          clear hr hck hR5
          cases hgj : (r.job == 0)
          · cases hgs : (r.state.toList == [])
            · have HG : Hid (isLoose r = false) := by show _ = _; unfold isLoose Rc.grp; rw [hgj, hgs]; rfl
              go_wp2
              go_round
              case rel => 
                  have e := HR.out
                  have hS' : Sm2 R O n (j + 1) _ _ _ _ _ _ _ yl := ⟨hS.a1.step, hS.a2.step, hS.a3.step, hS.a4.step, hS.a5.step, hS.a6.step, hS.an.step, by rw [hS.al, show cntN isLoose O (j + 1) = cntN isLoose O j + (if isLoose (O j) = true then 1 else 0) from rfl, ← e, HG.out]; simp⟩
                  rw [← e] at hS'
                  exact ⟨j + 1, _, _, _, _, _, _, _, _, by omega, by go_num, rfl, rfl, rfl, rfl, rfl, rfl, rfl, rfl, hS'⟩
              case measure => simp [intOf]; omega
            · have HG : Hid (isLoose r = true) := by show _ = _; unfold isLoose Rc.grp; rw [hgj, hgs]; rfl
              go_wp2
              go_round
              case rel => 
                  have e := HR.out
                  have hS' : Sm2 R O n (j + 1) _ _ _ _ _ _ _ (yl - 1) := ⟨hS.a1.step, hS.a2.step, hS.a3.step, hS.a4.step, hS.a5.step, hS.a6.step, hS.an.step, by rw [hS.al, show cntN isLoose O (j + 1) = cntN isLoose O j + (if isLoose (O j) = true then 1 else 0) from rfl, ← e, HG.out]; simp; omega⟩
                  rw [← e] at hS'
                  exact ⟨j + 1, _, _, _, _, _, _, _, _, by omega, by go_num, rfl, rfl, rfl, rfl, rfl, rfl, rfl, rfl, hS'⟩
              case measure => simp [intOf]; omega
          · have HG : Hid (isLoose r = true) := by show _ = _; unfold isLoose Rc.grp; rw [hgj]; rfl
            go_wp2
            go_round
            case rel => 
                  have e := HR.out
                  have hS' : Sm2 R O n (j + 1) _ _ _ _ _ _ _ (yl - 1) := ⟨hS.a1.step, hS.a2.step, hS.a3.step, hS.a4.step, hS.a5.step, hS.a6.step, hS.an.step, by rw [hS.al, show cntN isLoose O (j + 1) = cntN isLoose O j + (if isLoose (O j) = true then 1 else 0) from rfl, ← e, HG.out]; simp; omega⟩
                  rw [← e] at hS'
                  exact ⟨j + 1, _, _, _, _, _, _, _, _, by omega, by go_num, rfl, rfl, rfl, rfl, rfl, rfl, rfl, rfl, hS'⟩
            case measure => simp [intOf]; omega
        · have hge : (m : Int) ≤ j := by omega
          obtain rfl : m = j := by omega
          have hL := HL.out
          obtain rfl : y1 = 0 := hS.a1.zero (hL.sum _ fun _ _ _ => cong_u)
          obtain rfl : y2 = 0 := hS.a2.zero (hL.sum _ fun _ _ _ => cong_u)
          obtain rfl : y3 = 0 := hS.a3.zero (hL.sum _ fun _ _ _ => cong_u)
          obtain rfl : y4 = 0 := hS.a4.zero (hL.sum _ fun _ _ _ => cong_u)
          obtain rfl : y5 = 0 := hS.a5.zero (hL.sum _ fun _ _ _ => cong_u)
          obtain rfl : y6 = 0 := hS.a6.zero (hL.sum _ fun _ _ _ => cong_u)
          obtain rfl : yl = 0 := by rw [hS.al, hL.loose_same]; omega
          clear hlt hyl1 hyl2
          cases haz : azTo R n
          · clear hS hL
            go_wp2
            go_ret
            exact ⟨rfl, HD.out⟩
          · obtain rfl : yn = 0 := hS.an.zero (hL.count (azTo_all n haz))
            clear hS hL
            go_wp2
            go_ret
            exact ⟨rfl, HD.out⟩
end Go.Proofs.Qxb6604053a
