import Derived.Test.Qxb6601068aParse
namespace Go.Proofs.Qxb6601068a
open Go.RowKit

theorem info5 : (Try.prog.info? 5).map (fun i => (i.zero, i.size, i.bytes)) = some (some (.int .u8 0), 1, 1) := by kernel_rfl
/-- A row of bytes. -/
def ByteRow (w : World) (b : Nat) (t : TypeId) (n : Nat) (y : Nat → Int) : Prop := w.rowIs b t n fun j => .int .u8 (y j)
def put (y : Nat → Int) (i : Nat) (d : Int) : Nat → Int := fun j => if j = i then d else y j
theorem put_same (y : Nat → Int) (i : Nat) (d : Int) : put y i d i = d := if_pos rfl
theorem put_other {y : Nat → Int} {i j : Nat} {d : Int} (h : j ≠ i) : put y i d j = y j := if_neg h
theorem ByteRow.set {w : World} {b : Nat} {t : TypeId} {n : Nat} {y : Nat → Int} (h : ByteRow w b t n y) (i : Nat) (d : Int) : ByteRow (w.setCell ⟨b, i, none⟩ (.int .u8 d)) b t n (put y i d) :=
  (World.rowIs.set h i (.int .u8 d)).congr fun j hj => by
    show (if j = i then _ else _) = Value.int .u8 (if j = i then _ else _)
    split <;> rfl

/-- What decimalText hands back of N. -/
def IsText (N : Int) (m : Nat) (x : Nat → Int) : Prop := 1 ≤ m ∧ m ≤ 20 ∧ Dig x 0 m ∧ vl x 0 m = N ∧ (0 < N → x 0 ≠ 48)

theorem step_law {N V : Int} {y : Nat → Int} {j : Nat} (hj : j < 20) (h : N = V * p10 (20 - (j + 1)) + vl y (j + 1) (20 - (j + 1))) :
    N = V / 10 * p10 (20 - j) + vl (put y j (48 + V % 10)) j (20 - j) := by
  have e : 20 - j = 20 - (j + 1) + 1 := by omega
  rw [e, vl_left, put_same, p10]
  have e2 : vl (put y j (48 + V % 10)) (j + 1) (20 - (j + 1)) = vl y (j + 1) (20 - (j + 1)) := vl_congr fun i hi => put_other (by omega)
  rw [e2, h]
  generalize p10 (20 - (j + 1)) = P
  generalize vl y (j + 1) (20 - (j + 1)) = L
  have e3 : 48 + V % 10 - 48 = V % 10 := by omega
  rw [e3, Int.mul_comm P 10, ← Int.mul_assoc, ← Int.add_assoc, ← Int.add_mul]
  have e4 : V / 10 * 10 + V % 10 = V := by omega
  rw [e4]

set_option maxHeartbeats 1600000 in
theorem decimal17_pos (N : Int) (h0 : 0 < N) (h1 : N ≤ 18446744073709551615) (w : World) :
    Calls Try.prog 17 #[.int .u64 N] w fun e w' => ∃ g m x, e = .returned (.slice (some ⟨g, 0, none⟩) m m) ∧ IsText N m x ∧ w'.heap.size = g + 1 ∧ ByteRow w' g 5 m x ∧ Below w.heap.size w w' := by
  have hne : ((N : Int) == 0) = false := by rw [beq_eq_false_iff_ne]; omega
  go_enter Try.func17, Try.ntmps17
  go_wp2
  go_loopw [0, 4] (fun v i wr => ∃ (V : Int) (i' : Nat) (y : Nat → Int), v = .int .u64 V ∧ i = .int .i64 i' ∧ 0 ≤ V ∧ V ≤ 18446744073709551615 ∧ i' ≤ 20 ∧ N = V * p10 (20 - i') + vl y i' (20 - i') ∧ Dig y i' (20 - i') ∧ (V = 0 → i' < 20 ∧ y i' ≠ 48) ∧ ByteRow wr w.heap.size 39 20 y ∧ Below w.heap.size w wr ∧ w.heap.size < wr.heap.size) (fun v _ _ => (intOf v).toNat)
  case atStart =>
    refine ⟨N, 20, fun _ => 0, rfl, rfl, by omega, h1, Nat.le_refl _, ?_, fun i hi => by omega, fun h => by omega, ?_, (Below.refl _ _).alloc (Nat.le_refl _) _, by simp⟩
    · simp [p10, vl]
    · have h : ByteRow (w.alloc (.cells (Array.replicate 20 (.int .u8 0)) 39)) w.heap.size 39 (Array.replicate 20 (Value.int .u8 0)).size (fun _ => 0) := World.rowIs_alloc w _ 39 _ (fun i hi => by simp at hi; simp [hi])
      exact h
  case round =>
    obtain ⟨V, i, y, rfl, rfl, hV0, hV1, hi20, hN, hdig, hlead, hrow, hbel, hsz⟩ := hrel
    have HN : Hid _ := hN
    have HD : Hid _ := hdig
    have HL : Hid _ := hlead
    clear hN hdig hlead
    by_cases hpos : 0 < V
    · cases i with
      | zero =>
        exfalso
        have hN := HN.out
        have hd := vl_bound HD.out
        have := p10_20
        simp only [Nat.sub_zero] at hN hd
        have hm : 1 * p10 20 ≤ V * p10 20 := Int.mul_le_mul_of_nonneg_right (by omega) (by omega)
        omega
      | succ j =>
        have hj : j < 20 := by omega
        have hc := World.rowIs.cell hrow hj
        have hf := World.rowIs.frozen hrow j
        have hj' : (j : Int) < 20 := by omega
        rw [show ((j + 1 : Nat) : Int) = (j : Int) + 1 from by omega]
        go_wp2
        go_roundw
        case rel =>
          refine ⟨V / 10, j, put y j (48 + V % 10), by go_num, by go_num, by omega, by omega, by omega, step_law hj HN.out, ?_, ?_, hrow.set j _, hbel.setCell (Nat.le_refl _) _, by simpa using hsz⟩
          · intro i hi
            by_cases e : i = 0
            · subst e; rw [Nat.add_zero, put_same]; omega
            · rw [put_other (by omega)]
              have := HD.out (i - 1) (by omega)
              rwa [show j + 1 + (i - 1) = j + i from by omega] at this
          · intro hz
            refine ⟨hj, ?_⟩
            rw [put_same]; omega
        case measure => simp [intOf]; omega
    · have hV : V = 0 := by omega
      subst hV
      obtain ⟨hi19, hy0⟩ := HL.out rfl
      have hi' : (i : Int) < 20 := by omega
      obtain ⟨w2, rfl⟩ : ∃ w2 : World, w2 = wr := ⟨_, rfl⟩
      obtain ⟨M, hM⟩ : ∃ M, 20 - i = M := ⟨_, rfl⟩
      have HM : Hid (20 - i = M) := hM
      have hMi : (M : Int) + i = 20 := by omega
      clear hM hMi
      go_wp2_with (first
        | ((with_reducible refine wpList_make_abs rfl (.tmp 23) (.tmp 23) 24 rfl 5 _ 1 1 Try.underlying24 info5 M (20 - (i : Int)) ?_ ?_ ?_ ?_ ?_ ?_); rfl; rfl; (have := HM.out; omega); (have := HM.out; omega); (have := HM.out; omega); intro w1 hA hb1 hs1))
      have hM20 : (M : Int) ≤ 20 := by have := HM.out; omega
      have hr0 : ByteRow w1 w2.heap.size 5 M (fun _ => 0) := by
        have := made_rowIs hA
        rw [Nat.mul_one] at this
        exact this.congr fun j _ => by show (#[Value.int .u8 0])[j % 1]! = _; rw [Nat.mod_one]; rfl
      clear hA
      go_loopw [6] (fun v wr => ∃ (k : Nat) (x : Nat → Int), v = .int .i64 k ∧ k ≤ M ∧ ByteRow wr w2.heap.size 5 M x ∧ (∀ t, t < k → x t = y (i + t)) ∧ Below w2.heap.size w2 wr ∧ wr.heap.size = w2.heap.size + 1) (fun v _ => M - (intOf v).toNat)
      case atStart => exact ⟨0, _, rfl, Nat.zero_le _, hr0, fun t ht => by omega, hb1, hs1⟩
      case round =>
        clear hr0 hb1 hs1
        obtain ⟨k, x, rfl, hk, hrx, hx, hb1, hs1⟩ := hrel
        have HX : Hid (∀ t, t < k → x t = y (i + t)) := hx
        clear hx
        by_cases hlt : k < M
        · have hlt' : (k : Int) < M := by omega
          have hik : i + k < 20 := by have := HM.out; omega
          have hik' : (i : Int) + k < 20 := by omega
          have cy : wr.cell? ⟨w.heap.size, i + k, none⟩ = some (.int .u8 (y (i + k))) := (hb1.cell (p := ⟨w.heap.size, i + k, none⟩) hsz).trans (World.rowIs.cell hrow hik)
          have cx := World.rowIs.cell hrx hlt
          have fx := World.rowIs.frozen hrx k
          go_wp2
          go_roundw
          case rel =>
            refine ⟨k + 1, _, by go_num, by omega, hrx.set k _, ?_, hb1.setCell (Nat.le_refl _) _, by simpa using hs1⟩
            intro t ht
            by_cases e : t = k
            · rw [e, put_same]
            · rw [put_other e]; exact HX.out t (by omega)
          case measure => simp [intOf]; omega
        · have hge : (M : Int) ≤ k := by omega
          clear hlt
          go_wp2
          go_ret
          have hMo := HM.out
          have hxy : ∀ t, t < M → x (0 + t) = y (i + t) := fun t ht => by rw [Nat.zero_add]; exact HX.out t (by omega)
          refine ⟨w2.heap.size, M, x, rfl, ⟨by omega, by omega, ?_, ?_, ?_⟩, hs1, hrx, hbel.trans (hb1.mono (by omega))⟩
          · intro t ht
            rw [hxy t ht]
            exact HD.out t (by omega)
          · have hN := HN.out
            rw [Int.zero_mul, Int.zero_add, hMo] at hN
            rw [hN]; exact vl_congr hxy
          · intro _
            have := hxy 0 (by omega)
            rw [Nat.zero_add, Nat.add_zero] at this
            rw [this]; exact hy0

theorem decimal17 (N : Int) (h0 : 0 ≤ N) (h1 : N ≤ 18446744073709551615) (w : World) :
    Calls Try.prog 17 #[.int .u64 N] w fun e w' => ∃ g m x, e = .returned (.slice (some ⟨g, 0, none⟩) m m) ∧ IsText N m x ∧ w'.heap.size = g + 1 ∧ ByteRow w' g 5 m x ∧ Below w.heap.size w w' := by
  by_cases hz : N = 0
  · subst hz
    go_enter Try.func17, Try.ntmps17
    go_wp2
    go_ret
    refine ⟨w.heap.size, 1, fun _ => 48, rfl, ⟨by omega, by omega, fun i _ => ⟨Int.le_refl 48, by show (48 : Int) ≤ 57; decide⟩, by simp [vl], fun h => by omega⟩, by simp, World.rowIs_alloc w #[.int .u8 48] 5 _ (fun i hi => ?_), (Below.refl _ _).alloc (Nat.le_refl _) _⟩
    have : i = 0 := by simpa using hi
    subst this; rfl
  · exact decimal17_pos N (by omega) h1 w
end Go.Proofs.Qxb6601068a
