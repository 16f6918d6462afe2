import Derived.Test.Qxb6600591aRows
import Derived.WalkKit
import Derived.WalkSpells
import Derived.WalkLawsBesides
namespace Go.Proofs.Qxb6600591a
open Go.RowKit

theorem arr22 : Try.prog.underlying 22 = some (.array (Try.prog.arrayLen 22) (Try.prog.elem 22)) := by kernel_rfl
theorem len22 : Try.prog.arrayLen 22 = 29 := by kernel_rfl
theorem el22 : Try.prog.elem 22 = 5 := by kernel_rfl
theorem size5 (W : World) : (sizeOf 5).run Try.prog W = .ok 1 W := by kernel_rfl
theorem slice_h (b off n : Nat) (hn : n ≤ 29) (W : World) : (Instr.sliceAt 22 (.pointer (some ⟨b, off, none⟩)) none (some (.int .u8 n)) none).run Try.prog W = .ok (.slice (some ⟨b, off, none⟩) n 29) W := by
  rw [run_sliceAt_array_h W 22 ⟨b, off, none⟩ arr22 .u8 n (by omega) (by rw [len22]; omega), el22, size5, len22]
  simp [slicedAt, Result.andThen, Addr.add]
theorem slice_lh (b off l h : Nat) (hl : l ≤ h) (hn : h ≤ 29) (hne : l < 29) (W : World) : (Instr.sliceAt 22 (.pointer (some ⟨b, off, none⟩)) (some (.int .u8 l)) (some (.int .u8 h)) none).run Try.prog W = .ok (.slice (some ⟨b, off + l, none⟩) (h - l) (29 - l)) W := by
  rw [run_sliceAt_array_lh W 22 ⟨b, off, none⟩ arr22 .u8 .u8 l h (by omega) (by omega) (by rw [len22]; omega), el22, size5, len22]
  have : ¬ 29 = l := by omega
  simp [slicedAt, Result.andThen, Addr.add, this]

set_option maxHeartbeats 400000 in
theorem is_id (b : Nat) (id q : ByteArray) (w : World) (h0 : w.cell? ⟨b, 0, none⟩ = some (.string id)) (h5 : w.cell? ⟨b, 5, none⟩ = some (.int .u8 0)) :
    Calls Try.prog 13 #[.pointer (some ⟨b, 0, none⟩), .string q] w fun e w' => e = .returned (.bool (id.toList == q.toList)) ∧ Below w.heap.size w w' := by
  go_enter Try.func13, Try.ntmps13
  go_wp2
  go_ret
  exact ⟨rfl, Below.refl _ _⟩

set_option maxHeartbeats 400000 in
theorem is_codes (b : Nat) (n : Nat) (xs : List Int) (q : ByteArray) (w : World) (hn : 0 < n) (hn' : n ≤ 29) (hx : xs.length = n) (h5 : w.cell? ⟨b, 5, none⟩ = some (.int .u8 n))
    (hc : ∀ i, i < n → w.cell? ⟨b, 7 + i, none⟩ = some (.int .u8 (xs.getD i 0))) :
    Calls Try.prog 13 #[.pointer (some ⟨b, 0, none⟩), .string q] w fun e w' => e = .returned (.bool ((strOfNums xs).toList == q.toList)) ∧ Below w.heap.size w w' := by
  have hcv := run_convert_bytes_arg (P := Try.prog) w.drew 40 5 Try.underlying40 Try.underlying5 b 7 n 29 xs hx hc 9 Try.underlying9
  have hsl := slice_h b 7 n hn'
  clear hc
  go_enter Try.func13, Try.ntmps13
  go_wp2
  go_region
  all_goals go_wp2
  all_goals go_ret
  all_goals exact ⟨rfl, (Below.refl _ _).drew⟩
end Go.Proofs.Qxb6600591a
