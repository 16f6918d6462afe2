import Derived.Test.Qxb6601068aDec
namespace Go.Proofs.Qxb6601068a
open Go.RowKit

theorem ByteRow.bytes {w : World} {b : Nat} {t : TypeId} {n : Nat} {y : Nat → Int} (h : ByteRow w b t n y) : Bytes w (some ⟨b, 0, none⟩) n y :=
  fun _ => ⟨b, 0, rfl, World.rowIs.lt h, fun i hi => by rw [Nat.zero_add]; exact World.rowIs.cell h hi⟩
theorem zzParse_ok (a : Option Addr) (n c : Nat) (x : Nat → Int) (w : World) (hs : Bytes w a n x) (hn : n ≤ 1048576) (hg : ∀ i, i < n → good x i = true) :
    Calls Try.prog 14 #[.slice a n c] w fun e w' => e = .returned (.tuple #[.int .u64 (vl x 0 n), .bool true]) ∧ w' = w := by
  have HG : Hid (∀ i, i < n → good x i = true) := hg
  clear hg
  go_enter Try.func14, Try.ntmps14
  go_wp2_with fail
  refine (parse_ok a n c x w hs hn HG.out).mono ?_
  rintro e w1 ⟨rfl, rfl⟩
  go_wp2
  go_ret2
  exact ⟨rfl, rfl⟩
theorem zzParse_no (a : Option Addr) (n c : Nat) (x : Nat → Int) (w : World) (hs : Bytes w a n x) (hn : n ≤ 1048576) (hx : ∀ i, i < n → 0 ≤ x i ∧ x i ≤ 255) (i0 : Nat) (hi0 : i0 < n) (hbad : good x i0 = false) (hg : ∀ i, i < i0 → good x i = true) :
    Calls Try.prog 14 #[.slice a n c] w fun e w' => e = .returned (.tuple #[.int .u64 0, .bool false]) ∧ w' = w := by
  have HG : Hid (∀ i, i < i0 → good x i = true) := hg
  have HB : Hid (good x i0 = false) := hbad
  have HX : Hid (∀ i, i < n → 0 ≤ x i ∧ x i ≤ 255) := hx
  clear hg hbad hx
  go_enter Try.func14, Try.ntmps14
  go_wp2_with fail
  refine (parse_no a n c x w hs hn HX.out i0 hi0 HB.out HG.out).mono ?_
  rintro e w1 ⟨rfl, rfl⟩
  go_wp2
  go_ret2
  exact ⟨rfl, rfl⟩
theorem good_of {x : Nat → Int} {n : Nat} (h : Dig x 0 n) (hv : vl x 0 n ≤ 18446744073709551615) : ∀ i, i < n → good x i = true := by
  intro i hi
  have h1 := h i hi
  rw [Nat.zero_add] at h1
  have h2 := vl_mono h (k := i + 1) (by omega)
  simp only [good, Bool.and_eq_true, decide_eq_true_eq]
  exact ⟨h1, by omega⟩
theorem padded_val {x y : Nat → Int} {Z m : Nat} (h0 : ∀ t, t < Z → y t = 48) (h1 : ∀ t, t < m → y (Z + t) = x t) : vl y 0 (Z + m) = vl x 0 m := by
  rw [vl_append, vl_zeros (fun i hi => by rw [Nat.zero_add]; exact h0 i hi), Int.zero_mul, Int.zero_add, Nat.zero_add]
  exact vl_congr fun i hi => by rw [Nat.zero_add]; exact h1 i hi
theorem padded_dig {x y : Nat → Int} {Z m : Nat} (hx : Dig x 0 m) (h0 : ∀ t, t < Z → y t = 48) (h1 : ∀ t, t < m → y (Z + t) = x t) : Dig y 0 (Z + m) := by
  intro i hi
  rw [Nat.zero_add]
  by_cases h : i < Z
  · rw [h0 i h]; omega
  · have := h1 (i - Z) (by omega)
    rw [show Z + (i - Z) = i from by omega] at this
    have h2 := hx (i - Z) (by omega)
    rw [Nat.zero_add] at h2
    rw [this]; exact h2
theorem made_bytes {W : World} {b n : Nat} (h : W.heap[b]? = some (.cells (madeCells (Value.int .u8 0).cells (n * 1)) 5 (0, 0))) : ByteRow W b 5 n (fun _ => 0) := by
  have := made_rowIs h
  rw [Nat.mul_one] at this
  exact this.congr fun j _ => by show (#[Value.int .u8 0])[j % 1]! = _; rw [Nat.mod_one]; rfl

set_option maxHeartbeats 1600000 in
theorem walkRound (N Z' : Int) (h0 : 0 ≤ N) (h1 : N ≤ 18446744073709551615) (w : World) :
    Calls Try.prog 5 #[.int .u64 N, .int .i64 Z'] w fun e w' => e = .returned (.bool true) ∧ Below w.heap.size w w' := by
  go_enter Try.func5, Try.ntmps5
  by_cases z0 : Z' < 0
  · go_wp2
    go_ret
    exact ⟨rfl, Below.refl _ _⟩
  by_cases z1 : 65536 < Z'
  · go_wp2
    go_ret
    exact ⟨rfl, Below.refl _ _⟩
  obtain ⟨Z, rfl⟩ := Int.eq_ofNat_of_zero_le (a := Z') (by omega)
  have hZ : (Z : Int) ≤ 65536 := by omega
  have hZn : Z ≤ 65536 := by omega
  go_wp2_with fail
  refine (decimal17 N h0 h1 _).mono ?_
  rintro e w1 ⟨g, m, x, rfl, hT, hs1, hx, hb1⟩
  obtain ⟨m1, m20, hdx, hvx, _⟩ := hT
  have HD : Hid (Dig x 0 m) := hdx
  have HV : Hid (vl x 0 m = N) := hvx
  clear hdx hvx
  have hm' : (m : Int) ≤ 20 := by omega
  have hg : g < w1.heap.size := by omega
  clear hs1
  go_wp2_with (first
    | ((with_reducible refine wpList_make_abs rfl (.tmp 22) (.tmp 22) 24 rfl 5 _ 1 1 Try.underlying24 info5 (Z + m) ((Z : Int) + m) ?_ ?_ ?_ ?_ ?_ ?_); rfl; rfl; omega; omega; omega; intro w2 hA hb2 hs2))
  have hr0 := made_bytes hA
  clear hA
  go_loopw [7] (fun v wr => ∃ (k : Nat) (y : Nat → Int), v = .int .i64 k ∧ k ≤ Z ∧ ByteRow wr w1.heap.size 5 (Z + m) y ∧ (∀ t, t < k → y t = 48) ∧ Below w1.heap.size w1 wr) (fun v _ => Z - (intOf v).toNat)
  case atStart => exact ⟨0, _, rfl, Nat.zero_le _, hr0, fun t ht => by omega, hb2⟩
  case round =>
    clear hr0 hb2 hs2
    obtain ⟨k, y, rfl, hk, hry, hy, hb2⟩ := hrel
    have HY : Hid (∀ t, t < k → y t = 48) := hy
    clear hy
    by_cases hlt : k < Z
    · have hlt' : (k : Int) < Z := by omega
      have hlt2 : (k : Int) < (Z : Int) + m := by omega
      have cy := World.rowIs.cell hry (i := k) (by omega)
      have fy := World.rowIs.frozen hry k
      go_wp2
      go_roundw
      case rel =>
        refine ⟨k + 1, _, by go_num, by omega, hry.set k _, ?_, hb2.setCell (Nat.le_refl _) _⟩
        intro t ht
        by_cases e : t = k
        · rw [e, put_same]
        · rw [put_other e]; exact HY.out t (by omega)
      case measure => simp [intOf]; omega
    · have hge : (Z : Int) ≤ k := by omega
      have hkZ : k = Z := by omega
      have HK : Hid (k = Z) := hkZ
      clear hlt hkZ
      obtain ⟨w3, rfl⟩ : ∃ w3 : World, w3 = wr := ⟨_, rfl⟩
      go_wp2
      go_loopw [8] (fun v wr => ∃ (j : Nat) (y : Nat → Int), v = .int .i64 j ∧ j ≤ m ∧ ByteRow wr w1.heap.size 5 (Z + m) y ∧ (∀ t, t < Z → y t = 48) ∧ (∀ t, t < j → y (Z + t) = x t) ∧ Below w1.heap.size w1 wr) (fun v _ => m - (intOf v).toNat)
      case atStart => exact ⟨0, y, rfl, Nat.zero_le _, hry, fun t ht => HY.out t (by rw [HK.out]; exact ht), fun t ht => by omega, hb2⟩
      case round =>
        clear hry hb2 HY
        obtain ⟨j, y, rfl, hj, hry, hy, hyx, hb2⟩ := hrel
        have HY : Hid (∀ t, t < Z → y t = 48) := hy
        have HX : Hid (∀ t, t < j → y (Z + t) = x t) := hyx
        clear hy hyx
        by_cases hlt : j < m
        · have hlt' : (j : Int) < m := by omega
          have cx : wr.cell? ⟨g, j, none⟩ = some (.int .u8 (x j)) := (hb2.cell (p := ⟨g, j, none⟩) hg).trans (World.rowIs.cell hx hlt)
          have cy := World.rowIs.cell hry (i := Z + j) (by omega)
          have fy := World.rowIs.frozen hry (Z + j)
          have hlt2 : (Z : Int) + j < (Z : Int) + m := by omega
          go_wp2
          go_roundw
          case rel =>
            refine ⟨j + 1, _, by go_num, by omega, hry.set (Z + j) _, ?_, ?_, hb2.setCell (Nat.le_refl _) _⟩
            · intro t ht
              rw [put_other (by omega)]; exact HY.out t ht
            · intro t ht
              by_cases e : t = j
              · rw [e, put_same]
              · rw [put_other (by omega)]; exact HX.out t (by omega)
          case measure => simp [intOf]; omega
        · have hge2 : (m : Int) ≤ j := by omega
          have hX : ∀ t, t < m → y (Z + t) = x t := fun t ht => HX.out t (by omega)
          have hval : vl y 0 (Z + m) = N := by rw [padded_val HY.out hX]; exact HV.out
          have hgd : ∀ i, i < Z + m → good y i = true := good_of (padded_dig HD.out HY.out hX) (by rw [hval]; exact h1)
          have HVal : Hid (vl y 0 (Z + m) = N) := hval
          have HGd : Hid (∀ i, i < Z + m → good y i = true) := hgd
          clear hlt hX hval hgd
          go_wp2_with fail
          refine (zzParse_ok _ (Z + m) (Z + m) y _ hry.bytes (by omega) HGd.out).mono ?_
          rw [HVal.out]
          rintro e w9 ⟨rfl, rfl⟩
          go_wp2
          go_ret
          exact ⟨by simp, hb1.trans (hb2.mono hb1.size)⟩
end Go.Proofs.Qxb6601068a
