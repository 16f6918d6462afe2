import Derived.Test.Qxb6601068aExact
namespace Go.Proofs.Qxb6601068a
open Go.RowKit

theorem zzParse_dig (a : Option Addr) (n c : Nat) (x : Nat → Int) (w : World) (hs : Bytes w a n x) (hn : n ≤ 1048576) (hx : ∀ i, i < n → 0 ≤ x i ∧ x i ≤ 255) (hd : Dig x 0 n) :
    Calls Try.prog 14 #[.slice a n c] w fun e w' => ∃ V O, e = .returned (.tuple #[.int .u64 V, .bool O]) ∧ ((O = true ∧ V = vl x 0 n ∧ vl x 0 n ≤ 18446744073709551615) ∨ (O = false ∧ V = 0 ∧ 18446744073709551615 < vl x 0 n)) ∧ w' = w := by
  by_cases hv : vl x 0 n ≤ 18446744073709551615
  · refine (zzParse_ok a n c x w hs hn (good_of hd hv)).mono ?_
    rintro e w1 ⟨rfl, rfl⟩
    exact ⟨_, _, rfl, .inl ⟨rfl, rfl, hv⟩, rfl⟩
  · rcases first_of (fun i => !good x i) n with h | ⟨i0, h1, h2, h3⟩
    · exfalso
      cases n with
      | zero => rw [vl] at hv; omega
      | succ n =>
        have := h n (by omega)
        simp only [good, Bool.not_eq_false', Bool.and_eq_true, decide_eq_true_eq] at this
        omega
    · refine (zzParse_no a n c x w hs hn hx i0 h1 (by simpa using h2) (fun i hi => by simpa using h3 i hi)).mono ?_
      rintro e w1 ⟨rfl, rfl⟩
      exact ⟨_, _, rfl, .inr ⟨rfl, rfl, by omega⟩, rfl⟩

/-- The bytes behind the first k, as a slice of their own. -/
theorem slice_from (a : Option Addr) (n k : Nat) (hk : k ≤ n) (W : World) : (Instr.slice 24 (.slice a n n) (some (.int .i64 (k : Int))) none none).run Try.prog W = .ok (.slice (if n = k then a else a.map (·.add k)) (n - k) (n - k)) W := by
  have e24 : Try.prog.elem 24 = 5 := by kernel_rfl
  have s5 : (sizeOf 5).run Try.prog W = .ok 1 W := by kernel_rfl
  rw [run_slice_l W 24 a n n (by rw [e24]; exact Try.underlying24) .i64 (k : Int) (by omega) (by omega), e24, s5]
  simp [sliced, Result.andThen]

theorem exceeds_is (a : Option Addr) (n c : Nat) (x : Nat → Int) (w : World) (hs : Bytes w a n x) (hd : Dig x 0 n) (h0 : 0 < n → x 0 ≠ 48) (r : Bool) (hr : decide (18446744073709551615 < vl x 0 n) = r) :
    Calls Try.prog 15 #[.slice a n c] w fun e w' => e = .returned (.bool r) ∧ Below w.heap.size w w' := by
  rw [← hr]; exact exceeds15 a n c x w hs hd h0
theorem IsCopy.cap {w : World} {a : Option Addr} {n c : Nat} {x : Nat → Int} (h : IsCopy w a n c x) : c = n := by
  rcases h with ⟨_, rfl, rfl⟩ | ⟨g, rfl, h, _⟩
  · rfl
  · exact h
/-- The bytes behind the first K lie where the slice of them says. -/
theorem IsCopy.from {w : World} {a : Option Addr} {n c : Nat} {x : Nat → Int} (h : IsCopy w a n c x) (K : Nat) : Bytes w (if n = K then a else a.map (·.add K)) (n - K) (fun i => x (K + i)) := by
  rcases h with ⟨_, rfl, _⟩ | ⟨g, rfl, _, h⟩
  · exact fun h => by omega
  · intro hn
    rw [if_neg (by omega)]
    refine ⟨g, K, (by show some ((⟨g, 0, none⟩ : Addr).add K) = _; unfold Addr.add; split <;> simp_all), World.rowIs.lt h, fun i hi => World.rowIs.cell h (by omega)⟩
theorem sig_val {x : Nat → Int} {n K : Nat} (hK : K ≤ n) (h0 : ∀ i, i < K → x i = 48) : vl (fun i => x (K + i)) 0 (n - K) = vl x 0 n := by
  have := vl_append x 0 K (n - K)
  rw [show K + (n - K) = n from by omega, vl_zeros (f := x) (s := 0) (t := K) (fun i hi => by rw [Nat.zero_add]; exact h0 i hi), Int.zero_mul, Int.zero_add, Nat.zero_add] at this
  rw [this]
  exact vl_congr fun i _ => by rw [Nat.zero_add]

set_option maxRecDepth 100000 in
set_option maxHeartbeats 2000000 in
theorem walkExact (a : Option Addr) (n c : Nat) (x : Nat → Int) (w : World) (hs : Bytes w a n x) (hnil : a = none → n = 0) (hx : ∀ i, i < n → 0 ≤ x i ∧ x i ≤ 255) :
    Calls Try.prog 4 #[.slice a n c] w fun e w' => e = .returned (.bool true) ∧ Below w.heap.size w w' := by
  have HX : Hid (∀ i, i < n → 0 ≤ x i ∧ x i ≤ 255) := hx
  have HN : Hid (a = none → n = 0) := hnil
  clear hx hnil
  go_enter Try.func4, Try.ntmps4
  go_wp2_with fail
  refine (zzBytes12 a n c _).mono ?_
  rintro e w1 ⟨⟨b, rfl, hn⟩, rfl⟩
  cases b
  · go_wp2
    go_ret
    exact ⟨rfl, Below.refl _ _⟩
  have hn' := hn rfl
  clear hn
  by_cases g1 : (65536 : Int) < n
  · go_wp2
    go_ret
    exact ⟨rfl, Below.refl _ _⟩
  go_wp2_with fail
  refine (clone13 a n c x _ hs hn' HN.out).mono ?_
  rintro e w2 ⟨a', c', rfl, hcp, hb2⟩
  have hsc := hcp.bytes
  go_wp2_with fail
  rcases first_of (fun i => !decide (48 ≤ x i ∧ x i ≤ 57)) n with hdig | ⟨i1, hi1, hnd, hdig⟩
  · -- every byte is a digit
    have hd : Dig x 0 n := fun i hi => by
      have := hdig i hi
      rw [Nat.zero_add]; simpa using this
    have HD : Hid (Dig x 0 n) := hd
    clear hdig hd
    refine (zzParse_dig a' n c' x _ hsc hn' HX.out HD.out).mono ?_
    rintro e w3 ⟨V, O, rfl, hVO, rfl⟩
    have HVO : Hid ((O = true ∧ V = vl x 0 n ∧ vl x 0 n ≤ 18446744073709551615) ∨ (O = false ∧ V = 0 ∧ 18446744073709551615 < vl x 0 n)) := hVO
    clear hVO
    go_wp2
    go_loop [5] (fun i => ∃ k : Nat, k ≤ n ∧ i = .int .i64 k) (fun i => n - (intOf i).toNat)
    case atStart => exact ⟨0, Nat.zero_le _, rfl⟩
    case round =>
      obtain ⟨k, hk, rfl⟩ := hrel
      by_cases hlt : k < n
      · obtain ⟨b, off, rfl, hbb, hc⟩ := hsc (by omega)
        have ck := hc k hlt
        have hdk := HD.out k hlt
        rw [Nat.zero_add] at hdk
        obtain ⟨d1, d2⟩ := hdk
        have hlt' : (k : Int) < n := by omega
        clear hsc hc hcp
        go_wp2
        go_round
        case rel => exact ⟨k + 1, by omega, by go_num⟩
        case measure => simp [intOf]; omega
      · have hge : (n : Int) ≤ k := by omega
        clear hlt hk
        -- K: how many leading zeros
        obtain ⟨K, hKn, hK0, hK1⟩ : ∃ K, K ≤ n ∧ (∀ i, i < K → x i = 48) ∧ (K < n → x K ≠ 48) := by
          rcases first_of (fun i => x i != 48) n with h | ⟨i, h1, h2, h3⟩
          · exact ⟨n, Nat.le_refl _, fun i hi => by simpa using h i hi, fun h => by omega⟩
          · exact ⟨i, by omega, fun j hj => by simpa using h3 j hj, fun _ => by simpa using h2⟩
        have HK0 : Hid (∀ i, i < K → x i = 48) := hK0
        have HK1 : Hid (K < n → x K ≠ 48) := hK1
        clear hK0 hK1
        go_wp2
        go_loop [6] (fun i => ∃ k : Nat, k ≤ K ∧ i = .int .i64 k) (fun i => n - (intOf i).toNat)
        case atStart => exact ⟨0, Nat.zero_le _, rfl⟩
        case round =>
          obtain ⟨j, hj, rfl⟩ := hrel
          by_cases hlt : j < K
          · obtain ⟨b, off, rfl, hbb, hc⟩ := hsc (by omega)
            have ck := (hc j (by omega)).trans (by rw [HK0.out j hlt])
            have hlt' : (j : Int) < n := by omega
            clear hsc hc hcp
            go_wp2
            go_round
            case rel => exact ⟨j + 1, by omega, by go_num⟩
            case measure => simp [intOf]; omega
          · obtain rfl : K = j := by omega
            clear hlt hj
            obtain rfl : n = c' := hcp.cap.symm
            have hsl := slice_from a' n K hKn
            have hbA := hcp.from K
            obtain ⟨A, hA⟩ : ∃ A, (if n = K then a' else a'.map (·.add K)) = A := ⟨_, rfl⟩
            rw [hA] at hbA
            simp only [hA] at hsl
            have HVal : Hid (vl (fun i => x (K + i)) 0 (n - K) = vl x 0 n) := sig_val hKn HK0.out
            have HDy : Hid (Dig (fun i => x (K + i)) 0 (n - K)) := fun i hi => by
              have := HD.out (K + i) (by omega)
              rw [Nat.zero_add] at this
              rw [Nat.zero_add]; exact this
            have HY0 : Hid (0 < n - K → (fun i => x (K + i)) 0 ≠ 48) := fun h => HK1.out (by omega)
            clear hA hcp
            by_cases hKlt : K < n
            · obtain ⟨b, off, rfl, hbb, hc⟩ := hsc (by omega)
              have ck := hc K hKlt
              have hlt' : (K : Int) < n := by omega
              have hxK : (x K == 48) = false := by rw [beq_eq_false_iff_ne]; exact HK1.out hKlt
              clear hsc hc
              go_wp2_with fail
              rcases HVO.out with ⟨rfl, hVv, hle⟩ | ⟨rfl, rfl, hgt⟩
              · refine (exceeds_is A (n - K) (n - K) _ _ hbA HDy.out HY0.out false (by rw [HVal.out, decide_eq_false_iff_not]; omega)).mono ?_
                rintro e w4 ⟨rfl, hb4⟩
                have hV0 : 0 ≤ V := by rw [hVv]; exact (vl_bound HD.out).1
                have hV1 : V ≤ 18446744073709551615 := by rw [hVv]; exact hle
                have HV : Hid (V = vl x 0 n) := hVv
                clear hVv hle
                by_cases hM0 : n - K = 0
                · have hMz : (((n - K : Nat) : Int) == 0) = true := by rw [beq_iff_eq]; omega
                  have hVz : (V == 0) = true := by rw [beq_iff_eq, HV.out, ← HVal.out, hM0]; rfl
                  clear hM0
                  go_wp2
                  go_ret
                  exact ⟨rfl, hb2.trans (hb4.mono hb2.size)⟩
                · have hMz : (((n - K : Nat) : Int) == 0) = false := by rw [beq_eq_false_iff_ne]; omega
                  go_wp2_with fail
                  refine (decimal17 V hV0 hV1 _).mono ?_
                  rintro e w5 ⟨g, m, t, rfl, hT, hs5, ht, hb5⟩
                  obtain ⟨m1, m20, hdt, hvt, ht0⟩ := hT
                  obtain ⟨rfl, heq⟩ := vl_unique (f := t) (g := fun i => x (K + i)) (s := 0) (s' := 0) (m := m) (n := n - K) hdt HDy.out (fun _ => ht0 (by
                    obtain ⟨q, hq⟩ : ∃ q, n - K = q + 1 := ⟨n - K - 1, by omega⟩
                    have h1 := HDy.out
                    have h2 := HY0.out (by omega)
                    have h3 := HVal.out
                    rw [hq] at h1 h3
                    have h4 := vl_lead h1 h2
                    have h5 := p10_pos q
                    rw [HV.out, ← h3]; omega)) HY0.out (by rw [hvt, HV.out, ← HVal.out])
                  have HEq : Hid (∀ i, i < n - K → t i = x (K + i)) := fun i hi => by have := heq i hi; simpa using this
                  clear heq hvt ht0 hdt
                  go_wp2_with fail
                  refine (same16 _ A (n - K) (n - K) (n - K) t _ _ ht.bytes (hbA.later (hb4.trans (hb5.mono hb4.size))) (by omega) HEq.out).mono ?_
                  rintro e w6 ⟨rfl, hb6⟩
                  go_wp2
                  go_ret
                  exact ⟨rfl, hb2.trans ((hb4.trans ((hb5.mono hb4.size).trans (hb6.mono (Nat.le_trans hb4.size hb5.size)))).mono hb2.size)⟩
              · refine (exceeds_is A (n - K) (n - K) _ _ hbA HDy.out HY0.out true (by rw [HVal.out, decide_eq_true_eq]; omega)).mono ?_
                rintro e w4 ⟨rfl, hb4⟩
                clear hgt
                go_wp2
                go_ret
                exact ⟨rfl, hb2.trans (hb4.mono hb2.size)⟩
            · have hge2 : (n : Int) ≤ K := by omega
              clear hKlt
              go_wp2_with fail
              rcases HVO.out with ⟨rfl, hVv, hle⟩ | ⟨rfl, rfl, hgt⟩
              · refine (exceeds_is A (n - K) (n - K) _ _ hbA HDy.out HY0.out false (by rw [HVal.out, decide_eq_false_iff_not]; omega)).mono ?_
                rintro e w4 ⟨rfl, hb4⟩
                have hV0 : 0 ≤ V := by rw [hVv]; exact (vl_bound HD.out).1
                have hV1 : V ≤ 18446744073709551615 := by rw [hVv]; exact hle
                have HV : Hid (V = vl x 0 n) := hVv
                clear hVv hle
                by_cases hM0 : n - K = 0
                · have hMz : (((n - K : Nat) : Int) == 0) = true := by rw [beq_iff_eq]; omega
                  have hVz : (V == 0) = true := by rw [beq_iff_eq, HV.out, ← HVal.out, hM0]; rfl
                  clear hM0
                  go_wp2
                  go_ret
                  exact ⟨rfl, hb2.trans (hb4.mono hb2.size)⟩
                · have hMz : (((n - K : Nat) : Int) == 0) = false := by rw [beq_eq_false_iff_ne]; omega
                  go_wp2_with fail
                  refine (decimal17 V hV0 hV1 _).mono ?_
                  rintro e w5 ⟨g, m, t, rfl, hT, hs5, ht, hb5⟩
                  obtain ⟨m1, m20, hdt, hvt, ht0⟩ := hT
                  obtain ⟨rfl, heq⟩ := vl_unique (f := t) (g := fun i => x (K + i)) (s := 0) (s' := 0) (m := m) (n := n - K) hdt HDy.out (fun _ => ht0 (by
                    obtain ⟨q, hq⟩ : ∃ q, n - K = q + 1 := ⟨n - K - 1, by omega⟩
                    have h1 := HDy.out
                    have h2 := HY0.out (by omega)
                    have h3 := HVal.out
                    rw [hq] at h1 h3
                    have h4 := vl_lead h1 h2
                    have h5 := p10_pos q
                    rw [HV.out, ← h3]; omega)) HY0.out (by rw [hvt, HV.out, ← HVal.out])
                  have HEq : Hid (∀ i, i < n - K → t i = x (K + i)) := fun i hi => by have := heq i hi; simpa using this
                  clear heq hvt ht0 hdt
                  go_wp2_with fail
                  refine (same16 _ A (n - K) (n - K) (n - K) t _ _ ht.bytes (hbA.later (hb4.trans (hb5.mono hb4.size))) (by omega) HEq.out).mono ?_
                  rintro e w6 ⟨rfl, hb6⟩
                  go_wp2
                  go_ret
                  exact ⟨rfl, hb2.trans ((hb4.trans ((hb5.mono hb4.size).trans (hb6.mono (Nat.le_trans hb4.size hb5.size)))).mono hb2.size)⟩
              · refine (exceeds_is A (n - K) (n - K) _ _ hbA HDy.out HY0.out true (by rw [HVal.out, decide_eq_true_eq]; omega)).mono ?_
                rintro e w4 ⟨rfl, hb4⟩
                clear hgt
                go_wp2
                go_ret
                exact ⟨rfl, hb2.trans (hb4.mono hb2.size)⟩
  · -- some byte is no digit
    have hbad : good x i1 = false := by
      have : ¬ (48 ≤ x i1 ∧ x i1 ≤ 57) := by simpa only [Bool.not_eq_true', decide_eq_false_iff_not] using hnd
      simp [good, this]
    obtain ⟨i0, h1, h2, h3⟩ : ∃ i0, i0 < n ∧ good x i0 = false ∧ ∀ j, j < i0 → good x j = true := by
      rcases first_of (fun i => !good x i) n with h | ⟨i0, h1, h2, h3⟩
      · have := h i1 hi1
        rw [hbad] at this; cases this
      · exact ⟨i0, h1, by simpa using h2, fun j hj => by simpa using h3 j hj⟩
    refine (zzParse_no a' n c' x _ hsc hn' HX.out i0 h1 h2 h3).mono ?_
    rintro e w3 ⟨rfl, rfl⟩
    have HND : Hid (x i1 < 48 ∨ 57 < x i1) := by
      have : ¬ (48 ≤ x i1 ∧ x i1 ≤ 57) := by simpa only [Bool.not_eq_true', decide_eq_false_iff_not] using hnd
      show _ ∨ _
      omega
    have HDG : Hid (∀ j, j < i1 → 48 ≤ x j ∧ x j ≤ 57) := fun j hj => by simpa using hdig j hj
    clear hbad h2 h3 hnd hdig
    go_wp2
    go_loop [5] (fun i => ∃ k : Nat, k ≤ i1 ∧ i = .int .i64 k) (fun i => n - (intOf i).toNat)
    case atStart => exact ⟨0, Nat.zero_le _, rfl⟩
    case round =>
      obtain ⟨k, hk, rfl⟩ := hrel
      obtain ⟨b, off, rfl, hbb, hc⟩ := hsc (by omega)
      have ck := hc k (by omega)
      have hlt' : (k : Int) < n := by omega
      clear hsc hc hcp
      by_cases e : k = i1
      · subst e
        rcases HND.out with hq | hq
        · go_wp2
          go_ret
          exact ⟨rfl, hb2⟩
        · have hq' : ¬ x k < 48 := by omega
          go_wp2
          go_ret
          exact ⟨rfl, hb2⟩
      · have hki : k < i1 := Nat.lt_of_le_of_ne hk e
        obtain ⟨d1, d2⟩ := HDG.out k hki
        clear e
        go_wp2
        go_round
        case rel => exact ⟨k + 1, by omega, by go_num⟩
        case measure => simp [intOf]; omega
end Go.Proofs.Qxb6601068a
