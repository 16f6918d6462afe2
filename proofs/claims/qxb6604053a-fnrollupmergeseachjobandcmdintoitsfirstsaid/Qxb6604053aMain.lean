import Derived.Test.Qxb6604053aEarlier
import Derived.Test.Qxb6604053aEq2
import Derived.Deep.DeepCutAuto
import Derived.Lib.Builder
namespace Go.Proofs.Qxb6604053a
open Go.RowKit

theorem Mg.no {R : Nat → Rc} {i j : Nat} {x : Rc} (hij : i < j) (h : Mg R i (j - (i + 1)) x) (ha : adds R i j = false) : Mg R i (j + 1 - (i + 1)) x := by
  rw [show j + 1 - (i + 1) = (j - (i + 1)) + 1 by omega]
  exact ⟨x, h, .inl ⟨by rw [show i + 1 + (j - (i + 1)) = j by omega]; exact ha, rfl⟩⟩
theorem Mg.yes {R : Nat → Rc} {i j c : Nat} {x : Rc} (hij : i < j) (h : Mg R i (j - (i + 1)) x) (ha : adds R i j = true) (hc : FAdd x.cpu (R j).cpu c) : Mg R i (j + 1 - (i + 1)) (mrg x (R j) c) := by
  rw [show j + 1 - (i + 1) = (j - (i + 1)) + 1 by omega]
  refine ⟨x, h, .inr ⟨?_, c, ?_, ?_⟩⟩
  · rw [show i + 1 + (j - (i + 1)) = j by omega]; exact ha
  · rw [show i + 1 + (j - (i + 1)) = j by omega]; exact hc
  · rw [show i + 1 + (j - (i + 1)) = j by omega]
theorem adds_eq {R : Nat → Rc} {i j d : Nat} {x : Rc} (hg : (R i).grp = true) (h : Mg R i d x) : adds R i j = ((R j).grp && sameK (R j) x) := by
  obtain ⟨h1, h2⟩ := h.keep
  unfold adds sameK
  rw [hg, h1, h2]; rfl
theorem neq_same (p : Addr) (W : World) : (binOp .neq 28 (.pointer (some p)) (.pointer (some p))).run Try.prog W = .ok (.bool false) W := by
  cases hq : Try.prog.info? 34 with
  | none => have h := row34; rw [hq] at h; cases h
  | some i => exact Lib.run_neq_ptr_same W p Try.underlying28 hq
set_option maxRecDepth 100000 in
set_option maxHeartbeats 8000000 in
theorem merges3 (a : Option Addr) (n c : Nat) (R : Nat → Rc) (w : World) (hs : In w a n R) (hok : Hid (∀ i, i < n → (R i).ok)) :
    Calls Try.prog 3 #[.slice a n c] w fun e w' => e = .returned (.bool true) ∧ Below w.heap.size w w' := by
  go_enter Try.func3, Try.ntmps3
  go_upto_if 12 with (go_at_call 5; refine (zzBytes5 a n c R w hs).mono ?_; rintro e w1 ⟨⟨b, rfl, hb⟩, rfl⟩)
  cases b
  · go_wp2
    go_ret
    exact ⟨rfl, Below.refl _ _⟩
  have hn := hb rfl
  clear hb
  by_cases hn4 : (4096 : Int) < n
  · go_wp2
    go_ret
    exact ⟨rfl, Below.refl _ _⟩
  have hn4' : n ≤ 4096 := by omega
  go_upto_if 20 with (go_at_call 6; refine (recBytes6 a n c R _ hs hn4').mono ?_; rintro e w1 ⟨⟨z, rfl⟩, rfl⟩)
  by_cases hz : (1048576 : Int) < z
  · go_wp2
    go_ret
    exact ⟨rfl, Below.refl _ _⟩
  go_upto_if 29 with (first
    | (go_at_call 7; refine (build7 a n c R _ hs hn).mono ?_; rintro e w2 ⟨rfl, hR2, hg2, hs2⟩)
    | (go_at_call 8; refine (zzRollup8 _ n R w2 hR2 hs2 hn hok).mono ?_; rintro e w3 ⟨m, O, M, rfl, hL, hR3, hg3⟩; have hmn' : (m : Int) ≤ n := by { have := hL.le; omega }))
  obtain ⟨B, hBe⟩ : ∃ B, B = w1.heap.size := ⟨_, rfl⟩
  rw [← hBe]
  rw [← hBe] at hR3 hg3
  have hmn := hL.le
  have hb3 : Below w1.heap.size w1 w3 := (below_of hg2).grown hg3 hg2.size (fun q hq => by cases hq; omega)
  have hB3 : B < w3.heap.size := by have := hg3.size; omega
  have HD : Hid (Below w1.heap.size w1 w3) := hb3
  have HL : Hid (Made R n m O M) := hL.made
  have hs3 : In w3 a n R := hs.later hb3
  clear hR2 hg2 hs2 hg3 hs hL hBe hok hb3
  go_upto_region 9 with fail
  go_cut [39] (fun v wx => v = .bool false ∧ w3.grownBy wx none)
  case first =>
    by_cases hm : 0 < m
    · have hm1 : (0 : Int) < m := by omega
      have hm2 : (0 : Int) < n := by omega
      have hm3 : ¬ m = 0 := by omega
      have hm4 : ¬ n = 0 := by omega
      have hne := neq_same ⟨B, 0, none⟩
      refine wp_region_held_drew (S := fun _ => True) (by kernel_rfl) trivial (fun hHeld => ?_)
      show wpAnyH _ _ _ _ _ 10 #[false, false, false, false, false, false, false, false, false, false] _ _
      refine take_at (i := 0) (v := .slice (some ⟨B, 0, none⟩) m n) (some 30) rfl rfl (by kernel_rfl) (by kernel_rfl) (by kernel_rfl) (fun _ _ _ h => h) (Or.inl ⟨by rfl, fun W _ => rfl⟩) hHeld ?_
      simp only [Act.put, List.setIfInBounds_toArray, List.set_cons_zero, List.set_cons_succ]
      refine take_at (i := 1) (v := .int .i64 (m : Int)) (some 31) rfl rfl (by kernel_rfl) (by kernel_rfl) (by kernel_rfl) (fun _ _ _ h => h) (Or.inl ⟨by rfl, fun W _ => by go_simp⟩) hHeld ?_
      simp only [Act.put, List.setIfInBounds_toArray, List.set_cons_zero, List.set_cons_succ]
      refine take_at (i := 2) (v := .bool true) (some 32) rfl rfl (by kernel_rfl) (by kernel_rfl) (by kernel_rfl) (fun _ _ _ h => h) (Or.inl ⟨by rfl, fun W _ => by go_simp⟩) hHeld ?_
      simp only [Act.put, List.setIfInBounds_toArray, List.set_cons_zero, List.set_cons_succ]
      refine take_at (i := 3) (v := .bool true) (some 33) rfl rfl (by kernel_rfl) (by kernel_rfl) (by kernel_rfl) (fun _ _ _ h => h) (Or.inl ⟨by rfl, fun W _ => rfl⟩) hHeld ?_
      simp only [Act.put, List.setIfInBounds_toArray, List.set_cons_zero, List.set_cons_succ]
      refine take_at (i := 4) (v := .slice (some ⟨B, 0, none⟩) m n) (some 34) rfl rfl (by kernel_rfl) (by kernel_rfl) (by kernel_rfl) (fun _ _ _ h => h) (Or.inl ⟨by rfl, fun W _ => rfl⟩) hHeld ?_
      simp only [Act.put, List.setIfInBounds_toArray, List.set_cons_zero, List.set_cons_succ]
      refine take_at (i := 5) (v := .pointer (some ⟨B, 0, none⟩)) (some 35) rfl rfl (by kernel_rfl) (by kernel_rfl) (by kernel_rfl) (fun _ _ _ h => h) (Or.inl ⟨by rfl, fun W _ => by go_simp⟩) hHeld ?_
      simp only [Act.put, List.setIfInBounds_toArray, List.set_cons_zero, List.set_cons_succ]
      refine take_at (i := 6) (v := .slice (some ⟨B, 0, none⟩) n n) (some 36) rfl rfl (by kernel_rfl) (by kernel_rfl) (by kernel_rfl) (fun _ _ _ h => h) (Or.inl ⟨by rfl, fun W _ => rfl⟩) hHeld ?_
      simp only [Act.put, List.setIfInBounds_toArray, List.set_cons_zero, List.set_cons_succ]
      refine take_at (i := 7) (v := .pointer (some ⟨B, 0, none⟩)) (some 37) rfl rfl (by kernel_rfl) (by kernel_rfl) (by kernel_rfl) (fun _ _ _ h => h) (Or.inl ⟨by rfl, fun W _ => by go_simp⟩) hHeld ?_
      simp only [Act.put, List.setIfInBounds_toArray, List.set_cons_zero, List.set_cons_succ]
      refine take_at (i := 8) (v := .bool false) (some 38) rfl rfl (by kernel_rfl) (by kernel_rfl) (by kernel_rfl) (fun _ _ _ h => h) (Or.inl ⟨by rfl, fun W _ => by go_simp⟩) hHeld ?_
      simp only [Act.put, List.setIfInBounds_toArray, List.set_cons_zero, List.set_cons_succ]
      refine take_at (i := 9) (v := .bool false) (some 39) rfl rfl (by kernel_rfl) (by kernel_rfl) (by kernel_rfl) (fun _ _ _ h => h) (Or.inl ⟨by rfl, fun W _ => rfl⟩) hHeld ?_
      simp only [Act.put, List.setIfInBounds_toArray, List.set_cons_zero, List.set_cons_succ]
      refine wpAnyH_done (by kernel_rfl) ?_ _
      go_wp2
      go_meet
      exact ⟨rfl, ⟨rfl, rfl, rfl, Nat.le_refl _, fun _ _ _ => rfl⟩⟩
    · have hm1 : (m : Int) ≤ 0 := by omega
      refine wp_region_held_drew (S := fun _ => True) (by kernel_rfl) trivial (fun hHeld => ?_)
      show wpAnyH _ _ _ _ _ 10 #[false, false, false, false, false, false, false, false, false, false] _ _
      refine take_at (i := 0) (v := .slice (some ⟨B, 0, none⟩) m n) (some 30) rfl rfl (by kernel_rfl) (by kernel_rfl) (by kernel_rfl) (fun _ _ _ h => h) (Or.inl ⟨by rfl, fun W _ => rfl⟩) hHeld ?_
      simp only [Act.put, List.setIfInBounds_toArray, List.set_cons_zero, List.set_cons_succ]
      refine take_at (i := 1) (v := .int .i64 (m : Int)) (some 31) rfl rfl (by kernel_rfl) (by kernel_rfl) (by kernel_rfl) (fun _ _ _ h => h) (Or.inl ⟨by rfl, fun W _ => by go_simp⟩) hHeld ?_
      simp only [Act.put, List.setIfInBounds_toArray, List.set_cons_zero, List.set_cons_succ]
      refine take_at (i := 2) (v := .bool false) (some 32) rfl rfl (by kernel_rfl) (by kernel_rfl) (by kernel_rfl) (fun _ _ _ h => h) (Or.inl ⟨by rfl, fun W _ => by go_simp⟩) hHeld ?_
      simp only [Act.put, List.setIfInBounds_toArray, List.set_cons_zero, List.set_cons_succ]
      refine take_at (i := 3) (v := .bool false) (some 33) rfl rfl (by kernel_rfl) (by kernel_rfl) (by kernel_rfl) (fun _ _ _ h => h) (Or.inl ⟨by rfl, fun W _ => rfl⟩) hHeld ?_
      simp only [Act.put, List.setIfInBounds_toArray, List.set_cons_zero, List.set_cons_succ]
      refine take_at (i := 4) (v := undef) (some 34) rfl rfl (by kernel_rfl) (by kernel_rfl) (by kernel_rfl) (fun _ _ _ h => h) (Or.inr ⟨by kernel_rfl, rfl⟩) hHeld ?_
      simp only [Act.put, List.setIfInBounds_toArray, List.set_cons_zero, List.set_cons_succ]
      refine take_at (i := 5) (v := undef) (some 35) rfl rfl (by kernel_rfl) (by kernel_rfl) (by kernel_rfl) (fun _ _ _ h => h) (Or.inr ⟨by kernel_rfl, rfl⟩) hHeld ?_
      simp only [Act.put, List.setIfInBounds_toArray, List.set_cons_zero, List.set_cons_succ]
      refine take_at (i := 6) (v := undef) (some 36) rfl rfl (by kernel_rfl) (by kernel_rfl) (by kernel_rfl) (fun _ _ _ h => h) (Or.inr ⟨by kernel_rfl, rfl⟩) hHeld ?_
      simp only [Act.put, List.setIfInBounds_toArray, List.set_cons_zero, List.set_cons_succ]
      refine take_at (i := 7) (v := undef) (some 37) rfl rfl (by kernel_rfl) (by kernel_rfl) (by kernel_rfl) (fun _ _ _ h => h) (Or.inr ⟨by kernel_rfl, rfl⟩) hHeld ?_
      simp only [Act.put, List.setIfInBounds_toArray, List.set_cons_zero, List.set_cons_succ]
      refine take_at (i := 8) (v := undef) (some 38) rfl rfl (by kernel_rfl) (by kernel_rfl) (by kernel_rfl) (fun _ _ _ h => h) (Or.inr ⟨by kernel_rfl, rfl⟩) hHeld ?_
      simp only [Act.put, List.setIfInBounds_toArray, List.set_cons_zero, List.set_cons_succ]
      refine take_at (i := 9) (v := .bool false) (some 39) rfl rfl (by kernel_rfl) (by kernel_rfl) (by kernel_rfl) (fun _ _ _ h => h) (Or.inl ⟨by rfl, fun W _ => rfl⟩) hHeld ?_
      simp only [Act.put, List.setIfInBounds_toArray, List.set_cons_zero, List.set_cons_succ]
      refine wpAnyH_done (by kernel_rfl) ?_ _
      go_wp2
      go_meet
      exact ⟨rfl, ⟨rfl, rfl, rfl, Nat.le_refl _, fun _ _ _ => rfl⟩⟩
  case rest =>
    obtain ⟨rfl, hG0⟩ := hcut
    have hs4 : In wc a n R := hs3.later (below_of hG0)
    have hR4 : Recs wc B n (mix O R m) := hR3.kept (hG0.block B hB3 (by simp))
    have hB4 : B < wc.heap.size := Nat.lt_of_lt_of_le hB3 hG0.size
    have HD4 : Hid (Below w1.heap.size w1 wc) := HD.out.trans (Below.mono (below_of hG0) HD.out.size)
    clear hG0 hs3 hR3 hB3 HD
    go_wp2
    go_loopw [5, 6] (fun vk vi wr => ∃ i p : Nat, i ≤ n ∧ vi = .int .i64 i ∧ vk = .int .i64 p ∧ Hid (p = posN R i) ∧ wc.grownBy wr none) (fun _ vi _ => n - (intOf vi).toNat)
    case atStart => exact ⟨0, 0, Nat.zero_le _, rfl, rfl, rfl, ⟨rfl, rfl, rfl, Nat.le_refl _, fun _ _ _ => rfl⟩⟩
    case round =>
      obtain ⟨i, p, hi, rfl, rfl, HP, hG⟩ := hrel
      by_cases hlt : i < n
      · obtain ⟨b, off, rfl, hb, hc⟩ := hs4 (by omega)
        have hlt' : (i : Int) < n := by omega
        have hpn : p ≤ i := by have := posN_le R i; have := HP.out; omega
        obtain ⟨r, hr⟩ : ∃ r, r = R i := ⟨_, rfl⟩
        have hck : RecAt wr b (off + i * 19) r := by rw [hr]; exact (hc i hlt).kept (hG.block b hb (by simp))
        have HR : Hid (r = R i) := hr
        have hwc := hG.size
        clear hr hc
        cases hg : r.grp
        · have HG : Hid (r.grp = false) := hg
          have hh : head R i = true := by unfold head; rw [← HR.out, hg]; rfl
          have hpm : p < m := by have := posN_lt hh hlt; rw [← HP.out, ← HL.out.len] at this; exact this
          have hpm' : (p : Int) < m := by omega
          have HSM : Hid (Same (O p) r) := by
            have := HL.out.out i hlt hh
            rw [← HP.out] at this
            show Same _ _
            rw [Mg.loose (by rw [← HR.out]; exact hg) this, HR.out]; exact Same.refl _
          have HH : Hid (head R i = true) := hh
          clear hh hg
          go_wp2_with (first
            | ((with_reducible refine wpList_load_rec rfl _ _ rfl b (off + i * 19) ?_ r hck isRow36 ?_); rfl)
            | ((with_reducible refine wpList_new_rec36 rfl rfl wr.heap.size rfl ?_); intro w5 hb5 hg5 hs5)
            | ((with_reducible refine wpList_store_rec rfl _ _ _ rfl wr.heap.size 0 r ?_ ?_ ?_ isRow36 ?_); rfl; rfl; (obtain ⟨z, hz⟩ := hb5; exact there_row hz); intro w6 h6 ho6 hf6 hg6 hs6; have hT6 : w6.there wr.heap.size 0 19 := by { obtain ⟨z, hz⟩ := hb5; exact fun q hq => ⟨by rw [h6 q hq]; rfl, by rw [hf6]; exact (there_row hz q hq).2⟩ }; have hg56 : wr.grownBy w6 none := grownBy_new hg5 hg6 (fun q hq => by cases hq; exact Nat.le_refl _); clear ho6 hf6 hg5 hg6 hb5)
            | ((with_reducible refine wpList_load_rec rfl _ _ rfl wr.heap.size 0 ?_ r h6 isRow36 ?_); rfl)
            | (go_at_call 9; refine (grouped9 r _).mono ?_; rintro e w7 ⟨he, hg7⟩; rw [HG.out] at he; subst he; have h7 : RecAt w7 wr.heap.size 0 r := h6.kept (hg7.block _ (by omega) (by simp)); have hG7 : wc.grownBy w7 none := grownBy_trans (grownBy_trans hG hg56) hg7))
          have hSB : RecAt w7 B (p * 19) (O p) := by
            have := hR4.1 p (by omega)
            rw [mix_lt hpm] at this
            exact this.kept (hG7.block B hB4 (by simp))
          have hBW : B < w7.heap.size := hSB.lt
          have hNW : wr.heap.size < w7.heap.size := h7.lt
          refine wp_region_held_drew (S := fun W => RecAt W B (p * 19) (O p) ∧ RecAt W wr.heap.size 0 r) (by kernel_rfl) ⟨hSB, h7⟩ (fun hHeld => ?_)
          show wpAnyH _ _ _ _ _ 8 #[false, false, false, false, false, false, false, false] _ _
          refine take_at (i := 0) (v := .slice (some ⟨B, 0, none⟩) m n) (some 86) rfl rfl (by kernel_rfl) (by kernel_rfl) (by kernel_rfl) (fun _ _ _ h => h) (Or.inl ⟨by rfl, fun W _ => rfl⟩) hHeld ?_
          simp only [Act.put, List.setIfInBounds_toArray, List.set_cons_zero, List.set_cons_succ]
          refine take_at (i := 1) (v := .int .i64 (p : Int)) (some 87) rfl rfl (by kernel_rfl) (by kernel_rfl) (by kernel_rfl) (fun _ _ _ h => h) (Or.inl ⟨by rfl, fun W _ => rfl⟩) hHeld ?_
          simp only [Act.put, List.setIfInBounds_toArray, List.set_cons_zero, List.set_cons_succ]
          refine take_at (i := 2) (v := .pointer (some ⟨B, p * 19, none⟩)) (some 88) rfl rfl (by kernel_rfl) (by kernel_rfl) (by kernel_rfl) (fun _ _ _ h => h) (Or.inl ⟨by rfl, fun W _ => by go_simp⟩) hHeld ?_
          simp only [Act.put, List.setIfInBounds_toArray, List.set_cons_zero, List.set_cons_succ]
          refine take_at (i := 3) (v := (O p).val) (some 89) rfl rfl (by kernel_rfl) (by kernel_rfl) (by kernel_rfl) (fun _ _ _ h => h) (yieldsIf_load_mid (by rfl) 34 _ rfl B (p * 19) rfl (Rc.list (O p)) _ (fun W hW => RecAt.range hW.1) Try.underlying34 rfl row34) hHeld ?_
          simp only [Act.put, List.setIfInBounds_toArray, List.set_cons_zero, List.set_cons_succ]
          refine take_at (i := 4) (v := r.val) (some 90) rfl rfl (by kernel_rfl) (by kernel_rfl) (by kernel_rfl) (fun _ _ _ h => h) (yieldsIf_load_mid (by rfl) 36 _ rfl wr.heap.size (0) rfl (Rc.list r) _ (fun W hW => RecAt.range hW.2) Try.underlying36 rfl row36) hHeld ?_
          simp only [Act.put, List.setIfInBounds_toArray, List.set_cons_zero, List.set_cons_succ]
          refine wpAnyH_ready (rs := [5]) (by kernel_rfl) (by simp) (AllReadyH.cons rfl (fun K' hK => ?_) AllReadyH.nil)
          rw [if_pos (by rfl)]
          go_wp2_with (go_at_call 14; refine (toRecord14 r _).mono ?_; rintro e w20 ⟨rfl, hg20⟩)
          refine hK.out _ _ ⟨hHeld.1.kept (hg20.block B hBW (by simp)), hHeld.2.kept (hg20.block _ hNW (by simp))⟩ (fun hHeld => ?_)
          clear hK
          simp only [List.setIfInBounds_toArray, List.set_cons_zero, List.set_cons_succ]
          have hBW2 : B < w20.heap.size := Nat.lt_of_lt_of_le hBW hg20.size
          have hNW2 : wr.heap.size < w20.heap.size := Nat.lt_of_lt_of_le hNW hg20.size
          refine wpAnyH_ready (rs := [6]) (by kernel_rfl) (by simp) (AllReadyH.cons rfl (fun K' hK => ?_) AllReadyH.nil)
          rw [if_pos (by rfl)]
          go_wp2_with (go_at_call 13; refine (eqRecord13 (O p) r _ HSM.out).mono ?_; rintro e w21 ⟨rfl, hg21⟩)
          refine hK.out _ _ ⟨hHeld.1.kept (hg21.block B hBW2 (by simp)), hHeld.2.kept (hg21.block _ hNW2 (by simp))⟩ (fun hHeld => ?_)
          clear hK
          simp only [List.setIfInBounds_toArray, List.set_cons_zero, List.set_cons_succ]
          refine take_at (i := 7) (v := .bool false) (some 93) rfl rfl (by kernel_rfl) (by kernel_rfl) (by kernel_rfl) (fun _ _ _ h => h) (Or.inl ⟨by rfl, fun W _ => by go_simp⟩) hHeld ?_
          simp only [Act.put, List.setIfInBounds_toArray, List.set_cons_zero, List.set_cons_succ]
          refine wpAnyH_done (by kernel_rfl) ?_ _
          have hg20' : w7.grownBy w20 none := ⟨hg20.os, hg20.tape, hg20.output, hg20.size, hg20.block⟩
          have hG21 : wc.grownBy w21 none := grownBy_trans (grownBy_trans hG7 hg20') hg21
          go_wp2
          go_roundw
          case rel => exact ⟨i + 1, p + 1, by omega, by go_num, by go_num, (by show _ = _; rw [posN, if_pos HH.out, HP.out]), hG21⟩
          case measure => simp [intOf]; omega
        · have HG : Hid (r.grp = true) := hg
          cases hE : hasE R i i
          · have HE : Hid (hasE R i i = false) := hE
            have hh : head R i = true := by unfold head; rw [hE]; simp
            have hpm : p < m := by have := posN_lt hh hlt; rw [← HP.out, ← HL.out.len] at this; exact this
            have hpm' : (p : Int) < m := by omega
            have HMG : Hid (Mg R i (n - (i + 1)) (O p)) := by
              have := HL.out.out i hlt hh
              rw [← HP.out] at this
              exact this
            have HH : Hid (head R i = true) := hh
            clear hh hg hE
            go_wp2_with (first
            | ((with_reducible refine wpList_load_rec rfl _ _ rfl b (off + i * 19) ?_ r hck isRow36 ?_); rfl)
            | ((with_reducible refine wpList_new_rec36 rfl rfl wr.heap.size rfl ?_); intro w5 hb5 hg5 hs5)
            | ((with_reducible refine wpList_store_rec rfl _ _ _ rfl wr.heap.size 0 r ?_ ?_ ?_ isRow36 ?_); rfl; rfl; (obtain ⟨z, hz⟩ := hb5; exact there_row hz); intro w6 h6 ho6 hf6 hg6 hs6; have hT6 : w6.there wr.heap.size 0 19 := by { obtain ⟨z, hz⟩ := hb5; exact fun q hq => ⟨by rw [h6 q hq]; rfl, by rw [hf6]; exact (there_row hz q hq).2⟩ }; have hg56 : wr.grownBy w6 none := grownBy_new hg5 hg6 (fun q hq => by cases hq; exact Nat.le_refl _); clear ho6 hf6 hg5 hg6 hb5)
            | ((with_reducible refine wpList_load_rec rfl _ _ rfl wr.heap.size 0 ?_ r h6 isRow36 ?_); rfl)
              | (go_at_call 9; refine (grouped9 r _).mono ?_; rintro e w7 ⟨he, hg7⟩; rw [HG.out] at he; subst he; have h7 : RecAt w7 wr.heap.size 0 r := h6.kept (hg7.block _ (by omega) (by simp)); have hT7 : w7.there wr.heap.size 0 19 := there_kept hT6 (hg7.block _ (by omega) (by simp)); have hs7 : w6.heap.size ≤ w7.heap.size := hg7.size; have hG7 : wc.grownBy w7 none := grownBy_trans (grownBy_trans hG hg56) hg7; have hI7 : In w7 (some ⟨b, off, none⟩) n R := hs4.later (below_of hG7))
              | (go_at_call 10; refine (hasEarlier10 _ n c i R _ hI7 hlt hn).mono ?_; rintro e w8 ⟨he, hg8⟩; rw [HE.out] at he; subst he; have h8 : RecAt w8 wr.heap.size 0 r := h7.kept (hg8.block _ (by omega) (by simp)); have hT8 : w8.there wr.heap.size 0 19 := there_kept hT7 (hg8.block _ (by omega) (by simp)); have hG8 : wc.grownBy w8 none := grownBy_trans hG7 hg8))
            obtain ⟨wo, rfl⟩ : ∃ wo : World, wo = wr := ⟨_, rfl⟩
            clear h6 h7 hT6 hT7 hg7 hg8 hG7 hI7 hs7 hg56 hs5 hs6 hck
            go_loopw [8] (fun vj wx => ∃ (j : Nat) (x : Rc), i < j ∧ j ≤ n ∧ vj = .int .i64 j ∧ Mg R i (j - (i + 1)) x ∧ RecAt wx wo.heap.size 0 x ∧ wx.there wo.heap.size 0 19 ∧ wc.grownBy wx none) (fun vj _ => n - (intOf vj).toNat)
            case atStart => exact ⟨i + 1, r, by omega, by omega, by go_num, by rw [Nat.sub_self]; exact HR.out, h8, hT8, hG8⟩
            case round =>
              clear h8 hT8 hG8
              obtain ⟨j, x, hij, hj, rfl, hMg, hX, hT, hGx⟩ := hrel
              have HM : Hid (Mg R i (j - (i + 1)) x) := hMg
              clear hMg
              by_cases hjn : j < n
              · have hjn' : (j : Int) < n := by omega
                obtain ⟨y, hy⟩ : ∃ y, y = R j := ⟨_, rfl⟩
                have hY : RecAt wr b (off + j * 19) y := by
                  obtain ⟨b', off', he, _, hc⟩ := hs4 (by omega)
                  cases he
                  rw [hy]; exact (hc j hjn).kept (hGx.block b hb (by simp))
                have HY : Hid (y = R j) := hy
                have HA : Hid (adds R i j = (y.grp && sameK y x)) := by show _ = _; rw [hy]; exact adds_eq (by rw [← HR.out]; exact HG.out) HM.out
                have hbw : b < wr.heap.size := hY.lt
                have hNw : wo.heap.size < wr.heap.size := hX.lt
                clear hy
                go_wp2
                refine wp_region_held_drew (S := fun W => RecAt W b (off + j * 19) y ∧ RecAt W wo.heap.size 0 x) (by kernel_rfl) ⟨hY, hX⟩ (fun hHeld => ?_)
                show wpAnyH _ _ _ _ _ 13 #[false, false, false, false, false, false, false, false, false, false, false, false, false] _ _
                refine take_at (i := 0) (v := .slice (some ⟨b, off, none⟩) n c) (some 63) rfl rfl (by kernel_rfl) (by kernel_rfl) (by kernel_rfl) (fun _ _ _ h => h) (Or.inl ⟨by rfl, fun W _ => rfl⟩) hHeld ?_
                simp only [Act.put, List.setIfInBounds_toArray, List.set_cons_zero, List.set_cons_succ]
                refine take_at (i := 1) (v := .int .i64 (j : Int)) (some 64) rfl rfl (by kernel_rfl) (by kernel_rfl) (by kernel_rfl) (fun _ _ _ h => h) (Or.inl ⟨by rfl, fun W _ => rfl⟩) hHeld ?_
                simp only [Act.put, List.setIfInBounds_toArray, List.set_cons_zero, List.set_cons_succ]
                refine take_at (i := 2) (v := .pointer (some ⟨b, off + j * 19, none⟩)) (some 65) rfl rfl (by kernel_rfl) (by kernel_rfl) (by kernel_rfl) (fun _ _ _ h => h) (Or.inl ⟨by rfl, fun W _ => by go_simp⟩) hHeld ?_
                simp only [Act.put, List.setIfInBounds_toArray, List.set_cons_zero, List.set_cons_succ]
                refine take_at (i := 3) (v := y.val) (some 66) rfl rfl (by kernel_rfl) (by kernel_rfl) (by kernel_rfl) (fun _ _ _ h => h) (yieldsIf_load_mid (by rfl) 36 _ rfl b (off + j * 19) rfl (Rc.list y) _ (fun W hW => RecAt.range hW.1) Try.underlying36 rfl row36) hHeld ?_
                simp only [Act.put, List.setIfInBounds_toArray, List.set_cons_zero, List.set_cons_succ]
                cases hgy : y.grp
                · have HGY : Hid (y.grp = false) := hgy
                  refine wpAnyH_ready (rs := [4]) (by kernel_rfl) (by simp) (AllReadyH.cons rfl (fun K' hK => ?_) AllReadyH.nil)
                  rw [if_pos (by rfl)]
                  go_wp2_with (go_at_call 9; refine (grouped9 y _).mono ?_; rintro e w9 ⟨he, hg9⟩; rw [HGY.out] at he; subst he)
                  refine hK.out _ _ ⟨hHeld.1.kept (hg9.block b hbw (by simp)), hHeld.2.kept (hg9.block _ hNw (by simp))⟩ (fun hHeld => ?_)
                  clear hK
                  simp only [List.setIfInBounds_toArray, List.set_cons_zero, List.set_cons_succ]
                  refine take_at (i := 5) (v := .bool false) (some 68) rfl rfl (by kernel_rfl) (by kernel_rfl) (by kernel_rfl) (fun _ _ _ h => h) (Or.inl ⟨by rfl, fun W _ => rfl⟩) hHeld ?_
                  simp only [Act.put, List.setIfInBounds_toArray, List.set_cons_zero, List.set_cons_succ]
                  refine take_at (i := 6) (v := undef) (some 69) rfl rfl (by kernel_rfl) (by kernel_rfl) (by kernel_rfl) (fun _ _ _ h => h) (Or.inr ⟨by kernel_rfl, rfl⟩) hHeld ?_
                  simp only [Act.put, List.setIfInBounds_toArray, List.set_cons_zero, List.set_cons_succ]
                  refine take_at (i := 7) (v := undef) (some 70) rfl rfl (by kernel_rfl) (by kernel_rfl) (by kernel_rfl) (fun _ _ _ h => h) (Or.inr ⟨by kernel_rfl, rfl⟩) hHeld ?_
                  simp only [Act.put, List.setIfInBounds_toArray, List.set_cons_zero, List.set_cons_succ]
                  refine take_at (i := 8) (v := undef) (some 71) rfl rfl (by kernel_rfl) (by kernel_rfl) (by kernel_rfl) (fun _ _ _ h => h) (Or.inr ⟨by kernel_rfl, rfl⟩) hHeld ?_
                  simp only [Act.put, List.setIfInBounds_toArray, List.set_cons_zero, List.set_cons_succ]
                  refine take_at (i := 9) (v := undef) (some 72) rfl rfl (by kernel_rfl) (by kernel_rfl) (by kernel_rfl) (fun _ _ _ h => h) (Or.inr ⟨by kernel_rfl, rfl⟩) hHeld ?_
                  simp only [Act.put, List.setIfInBounds_toArray, List.set_cons_zero, List.set_cons_succ]
                  refine take_at (i := 10) (v := undef) (some 73) rfl rfl (by kernel_rfl) (by kernel_rfl) (by kernel_rfl) (fun _ _ _ h => h) (Or.inr ⟨by kernel_rfl, rfl⟩) hHeld ?_
                  simp only [Act.put, List.setIfInBounds_toArray, List.set_cons_zero, List.set_cons_succ]
                  refine take_at (i := 11) (v := undef) (some 74) rfl rfl (by kernel_rfl) (by kernel_rfl) (by kernel_rfl) (fun _ _ _ h => h) (Or.inr ⟨by kernel_rfl, rfl⟩) hHeld ?_
                  simp only [Act.put, List.setIfInBounds_toArray, List.set_cons_zero, List.set_cons_succ]
                  refine take_at (i := 12) (v := .bool false) (some 75) rfl rfl (by kernel_rfl) (by kernel_rfl) (by kernel_rfl) (fun _ _ _ h => h) (Or.inl ⟨by rfl, fun W _ => rfl⟩) hHeld ?_
                  simp only [Act.put, List.setIfInBounds_toArray, List.set_cons_zero, List.set_cons_succ]
                  refine wpAnyH_done (by kernel_rfl) ?_ _
                  have hg9' : wr.grownBy w9 none := ⟨hg9.os, hg9.tape, hg9.output, hg9.size, hg9.block⟩
                  have hG9 : wc.grownBy w9 none := grownBy_trans hGx hg9'
                  have hX9 : RecAt w9 wo.heap.size 0 x := hX.kept (hg9'.block _ hNw (by simp))
                  have hT9 : w9.there wo.heap.size 0 19 := there_kept hT (hg9'.block _ hNw (by simp))
                  go_wp2
                  go_roundw
                  case rel => exact ⟨j + 1, x, by omega, by omega, by go_num, Mg.no hij HM.out (by rw [HA.out, HGY.out]; rfl), hX9, hT9, hG9⟩
                  case measure => simp [intOf]; omega
                · have HGY : Hid (y.grp = true) := hgy
                  refine wpAnyH_ready (rs := [4]) (by kernel_rfl) (by simp) (AllReadyH.cons rfl (fun K' hK => ?_) AllReadyH.nil)
                  rw [if_pos (by rfl)]
                  go_wp2_with (go_at_call 9; refine (grouped9 y _).mono ?_; rintro e w9 ⟨he, hg9⟩; rw [HGY.out] at he; subst he)
                  refine hK.out _ _ ⟨hHeld.1.kept (hg9.block b hbw (by simp)), hHeld.2.kept (hg9.block _ hNw (by simp))⟩ (fun hHeld => ?_)
                  clear hK
                  simp only [List.setIfInBounds_toArray, List.set_cons_zero, List.set_cons_succ]
                  refine take_at (i := 5) (v := .bool true) (some 68) rfl rfl (by kernel_rfl) (by kernel_rfl) (by kernel_rfl) (fun _ _ _ h => h) (Or.inl ⟨by rfl, fun W _ => rfl⟩) hHeld ?_
                  simp only [Act.put, List.setIfInBounds_toArray, List.set_cons_zero, List.set_cons_succ]
                  have hbw9 : b < w9.heap.size := Nat.lt_of_lt_of_le hbw hg9.size
                  have hNw9 : wo.heap.size < w9.heap.size := Nat.lt_of_lt_of_le hNw hg9.size
                  refine take_at (i := 6) (v := .slice (some ⟨b, off, none⟩) n c) (some 69) rfl rfl (by kernel_rfl) (by kernel_rfl) (by kernel_rfl) (fun _ _ _ h => h) (Or.inl ⟨by rfl, fun W _ => rfl⟩) hHeld ?_
                  simp only [Act.put, List.setIfInBounds_toArray, List.set_cons_zero, List.set_cons_succ]
                  refine take_at (i := 7) (v := .int .i64 (j : Int)) (some 70) rfl rfl (by kernel_rfl) (by kernel_rfl) (by kernel_rfl) (fun _ _ _ h => h) (Or.inl ⟨by rfl, fun W _ => rfl⟩) hHeld ?_
                  simp only [Act.put, List.setIfInBounds_toArray, List.set_cons_zero, List.set_cons_succ]
                  refine take_at (i := 8) (v := .pointer (some ⟨b, off + j * 19, none⟩)) (some 71) rfl rfl (by kernel_rfl) (by kernel_rfl) (by kernel_rfl) (fun _ _ _ h => h) (Or.inl ⟨by rfl, fun W _ => by go_simp⟩) hHeld ?_
                  simp only [Act.put, List.setIfInBounds_toArray, List.set_cons_zero, List.set_cons_succ]
                  refine take_at (i := 9) (v := y.val) (some 72) rfl rfl (by kernel_rfl) (by kernel_rfl) (by kernel_rfl) (fun _ _ _ h => h) (yieldsIf_load_mid (by rfl) 36 _ rfl b (off + j * 19) rfl (Rc.list y) _ (fun W hW => RecAt.range hW.1) Try.underlying36 rfl row36) hHeld ?_
                  simp only [Act.put, List.setIfInBounds_toArray, List.set_cons_zero, List.set_cons_succ]
                  refine take_at (i := 10) (v := x.val) (some 73) rfl rfl (by kernel_rfl) (by kernel_rfl) (by kernel_rfl) (fun _ _ _ h => h) (yieldsIf_load_mid (by rfl) 36 _ rfl wo.heap.size (0) rfl (Rc.list x) _ (fun W hW => RecAt.range hW.2) Try.underlying36 rfl row36) hHeld ?_
                  simp only [Act.put, List.setIfInBounds_toArray, List.set_cons_zero, List.set_cons_succ]
                  refine wpAnyH_ready (rs := [11]) (by kernel_rfl) (by simp) (AllReadyH.cons rfl (fun K' hK => ?_) AllReadyH.nil)
                  rw [if_pos (by rfl)]
                  go_wp2_with (go_at_call 11; refine (sameKey11 y x _).mono ?_; rintro e w10 ⟨he, hg10⟩; subst he)
                  refine hK.out _ _ ⟨hHeld.1.kept (hg10.block b hbw9 (by simp)), hHeld.2.kept (hg10.block _ hNw9 (by simp))⟩ (fun hHeld => ?_)
                  clear hK
                  simp only [List.setIfInBounds_toArray, List.set_cons_zero, List.set_cons_succ]
                  refine take_at (i := 12) (v := .bool (sameK y x)) (some 75) rfl rfl (by kernel_rfl) (by kernel_rfl) (by kernel_rfl) (fun _ _ _ h => h) (Or.inl ⟨by rfl, fun W _ => rfl⟩) hHeld ?_
                  simp only [Act.put, List.setIfInBounds_toArray, List.set_cons_zero, List.set_cons_succ]
                  refine wpAnyH_done (by kernel_rfl) ?_ _
                  have hg9' : wr.grownBy w9 none := ⟨hg9.os, hg9.tape, hg9.output, hg9.size, hg9.block⟩
                  have hg10' : wr.grownBy w10 none := grownBy_trans hg9' hg10
                  have hG10 : wc.grownBy w10 none := grownBy_trans hGx hg10'
                  have hX10 : RecAt w10 wo.heap.size 0 x := hX.kept (hg10'.block _ hNw (by simp))
                  have hY10 : RecAt w10 b (off + j * 19) y := hY.kept (hg10'.block _ hbw (by simp))
                  have hT10 : w10.there wo.heap.size 0 19 := there_kept hT (hg10'.block _ hNw (by simp))
                  have hb10 : b < w10.heap.size := hY10.lt
                  have hN10 : wo.heap.size < w10.heap.size := hX10.lt
                  clear hg9 hg10 hHeld hX hY hT hGx
                  cases hk : sameK y x
                  · have HSK : Hid (sameK y x = false) := hk
                    go_wp2
                    go_roundw
                    case rel => exact ⟨j + 1, x, by omega, by omega, by go_num, Mg.no hij HM.out (by rw [HA.out, HGY.out, HSK.out]; rfl), hX10, hT10, hG10⟩
                    case measure => simp [intOf]; omega
                  · have HSK : Hid (sameK y x = true) := hk
                    have hbN : b ≠ wo.heap.size := by omega
                    go_wp2
                    refine wp_region_held_drew (S := fun W => RecAt W b (off + j * 19) y ∧ W.there wo.heap.size 0 19) (by kernel_rfl) ⟨hY10, hT10⟩ (fun hHeld => ?_)
                    show wpAnyH _ _ _ _ _ 7 #[false, false, false, false, false, false, false] _ _
                    refine take_at (i := 1) (v := .slice (some ⟨b, off, none⟩) n c) (some 77) rfl rfl (by kernel_rfl) (by kernel_rfl) (by kernel_rfl) (fun _ _ _ h => h) (Or.inl ⟨by rfl, fun W _ => rfl⟩) hHeld ?_
                    simp only [Act.put, List.setIfInBounds_toArray, List.set_cons_zero, List.set_cons_succ]
                    refine take_at (i := 2) (v := .int .i64 (j : Int)) (some 78) rfl rfl (by kernel_rfl) (by kernel_rfl) (by kernel_rfl) (fun _ _ _ h => h) (Or.inl ⟨by rfl, fun W _ => rfl⟩) hHeld ?_
                    simp only [Act.put, List.setIfInBounds_toArray, List.set_cons_zero, List.set_cons_succ]
                    refine take_at (i := 3) (v := .pointer (some ⟨b, off + j * 19, none⟩)) (some 79) rfl rfl (by kernel_rfl) (by kernel_rfl) (by kernel_rfl) (fun _ _ _ h => h) (Or.inl ⟨by rfl, fun W _ => by go_simp⟩) hHeld ?_
                    simp only [Act.put, List.setIfInBounds_toArray, List.set_cons_zero, List.set_cons_succ]
                    refine take_at (i := 4) (v := y.val) (some 80) rfl rfl (by kernel_rfl) (by kernel_rfl) (by kernel_rfl) (fun _ _ _ h => h) (yieldsIf_load_mid (by rfl) 36 _ rfl b (off + j * 19) rfl (Rc.list y) _ (fun W hW => RecAt.range hW.1) Try.underlying36 rfl row36) hHeld ?_
                    simp only [Act.put, List.setIfInBounds_toArray, List.set_cons_zero, List.set_cons_succ]
                    refine wpAnyH_ready (rs := [0]) (by kernel_rfl) (by simp) (AllReadyH.cons rfl (fun K' hK => ?_) AllReadyH.nil)
                    rw [if_pos (by rfl)]
                    refine wp_load_mid 36 _ rfl wo.heap.size 0 rfl x.list _ hX10.range Try.underlying36 rfl row36 ?_
                    refine hK.out _ _ hHeld (fun hHeld => ?_)
                    clear hK
                    show wpAnyH _ _ _ _ _ 2 #[true, true, true, true, true, false, false] (Act.put _ (some 76) x.val) _
                    simp only [Act.put, List.setIfInBounds_toArray, List.set_cons_zero, List.set_cons_succ]
                    refine wpAnyH_ready (rs := [5]) (by kernel_rfl) (by simp) (AllReadyH.cons rfl (fun K' hK => ?_) AllReadyH.nil)
                    rw [if_pos (by rfl)]
                    go_wp2_with (go_at_call 12; refine (mergeInto12 x y _).mono ?_; rintro e w11 ⟨k, rfl, hc11, hg11⟩)
                    refine hK.out _ _ ⟨hHeld.1.kept (hg11.block b hb10 (by simp)), there_kept hHeld.2 (hg11.block _ hN10 (by simp))⟩ (fun hHeld => ?_)
                    clear hK
                    simp only [List.setIfInBounds_toArray, List.set_cons_zero, List.set_cons_succ]
                    have hT11 : w11.there wo.heap.size 0 19 := hHeld.2
                    refine wpAnyH_ready (rs := [6]) (by kernel_rfl) (by simp) (AllReadyH.cons rfl (fun K' hK => ?_) AllReadyH.nil)
                    rw [if_pos (by rfl)]
                    refine wp_store_mid 36 _ _ rfl wo.heap.size 0 (mrg x y k).cells rfl rfl hT11 row36 (all_oneCell_toArray (Rc.ones _)) ?_
                    refine hK.out _ _ ⟨hHeld.1.kept (World.heap_setCells_other w11 _ _ _ (Nat.lt_of_lt_of_le hb10 hg11.size) hbN), World.there_setCells hT11 _ _ _⟩ (fun hHeld => ?_)
                    clear hK
                    refine wpAnyH_done (by kernel_rfl) ?_ _
                    have hg11' : w10.grownBy w11 none := ⟨hg11.os, hg11.tape, hg11.output, hg11.size, hg11.block⟩
                    have hGE : wc.grownBy (w11.setCells wo.heap.size 0 (mrg x y k).cells.toList) none := grownBy_new (grownBy_trans hG10 hg11') (grownBy_setCells w11 _ _ _) (fun q hq => by cases hq; omega)
                    have hXE : RecAt (w11.setCells wo.heap.size 0 (mrg x y k).cells.toList) wo.heap.size 0 (mrg x y k) := RecAt.of_range (World.rangeAt_setCells_same w11 wo.heap.size 0 (mrg x y k).list hT11)
                    have hTE : (w11.setCells wo.heap.size 0 (mrg x y k).cells.toList).there wo.heap.size 0 19 := World.there_setCells hT11 _ _ _
                    go_wp2
                    go_roundw
                    case rel => exact ⟨j + 1, mrg x y k, by omega, by omega, by go_num, (by have := Mg.yes hij HM.out (by rw [HA.out, HGY.out, HSK.out]; rfl) (by rw [← HY.out]; exact hc11); rw [← HY.out] at this; exact this), hXE, hTE, hGE⟩
                    case measure => simp [intOf]; omega
              · have hge : (n : Int) ≤ j := by omega
                obtain rfl : n = j := by omega
                have HSM : Hid (Same (O p) x) := Mg.same HMG.out HM.out
                clear hjn
                go_wp2
                have hSB : RecAt wr B (p * 19) (O p) := by
                  have := hR4.1 p (by omega)
                  rw [mix_lt hpm] at this
                  exact this.kept (hGx.block B hB4 (by simp))
                have hBW : B < wr.heap.size := hSB.lt
                have hNW : wo.heap.size < wr.heap.size := hX.lt
                refine wp_region_held_drew (S := fun W => RecAt W B (p * 19) (O p) ∧ RecAt W wo.heap.size 0 x) (by kernel_rfl) ⟨hSB, hX⟩ (fun hHeld => ?_)
                show wpAnyH _ _ _ _ _ 8 #[false, false, false, false, false, false, false, false] _ _
                refine take_at (i := 0) (v := .slice (some ⟨B, 0, none⟩) m n) (some 86) rfl rfl (by kernel_rfl) (by kernel_rfl) (by kernel_rfl) (fun _ _ _ h => h) (Or.inl ⟨by rfl, fun W _ => rfl⟩) hHeld ?_
                simp only [Act.put, List.setIfInBounds_toArray, List.set_cons_zero, List.set_cons_succ]
                refine take_at (i := 1) (v := .int .i64 (p : Int)) (some 87) rfl rfl (by kernel_rfl) (by kernel_rfl) (by kernel_rfl) (fun _ _ _ h => h) (Or.inl ⟨by rfl, fun W _ => rfl⟩) hHeld ?_
                simp only [Act.put, List.setIfInBounds_toArray, List.set_cons_zero, List.set_cons_succ]
                refine take_at (i := 2) (v := .pointer (some ⟨B, p * 19, none⟩)) (some 88) rfl rfl (by kernel_rfl) (by kernel_rfl) (by kernel_rfl) (fun _ _ _ h => h) (Or.inl ⟨by rfl, fun W _ => by go_simp⟩) hHeld ?_
                simp only [Act.put, List.setIfInBounds_toArray, List.set_cons_zero, List.set_cons_succ]
                refine take_at (i := 3) (v := (O p).val) (some 89) rfl rfl (by kernel_rfl) (by kernel_rfl) (by kernel_rfl) (fun _ _ _ h => h) (yieldsIf_load_mid (by rfl) 34 _ rfl B (p * 19) rfl (Rc.list (O p)) _ (fun W hW => RecAt.range hW.1) Try.underlying34 rfl row34) hHeld ?_
                simp only [Act.put, List.setIfInBounds_toArray, List.set_cons_zero, List.set_cons_succ]
                refine take_at (i := 4) (v := x.val) (some 90) rfl rfl (by kernel_rfl) (by kernel_rfl) (by kernel_rfl) (fun _ _ _ h => h) (yieldsIf_load_mid (by rfl) 36 _ rfl wo.heap.size (0) rfl (Rc.list x) _ (fun W hW => RecAt.range hW.2) Try.underlying36 rfl row36) hHeld ?_
                simp only [Act.put, List.setIfInBounds_toArray, List.set_cons_zero, List.set_cons_succ]
                refine wpAnyH_ready (rs := [5]) (by kernel_rfl) (by simp) (AllReadyH.cons rfl (fun K' hK => ?_) AllReadyH.nil)
                rw [if_pos (by rfl)]
                go_wp2_with (go_at_call 14; refine (toRecord14 x _).mono ?_; rintro e w20 ⟨rfl, hg20⟩)
                refine hK.out _ _ ⟨hHeld.1.kept (hg20.block B hBW (by simp)), hHeld.2.kept (hg20.block _ hNW (by simp))⟩ (fun hHeld => ?_)
                clear hK
                simp only [List.setIfInBounds_toArray, List.set_cons_zero, List.set_cons_succ]
                have hBW2 : B < w20.heap.size := Nat.lt_of_lt_of_le hBW hg20.size
                have hNW2 : wo.heap.size < w20.heap.size := Nat.lt_of_lt_of_le hNW hg20.size
                refine wpAnyH_ready (rs := [6]) (by kernel_rfl) (by simp) (AllReadyH.cons rfl (fun K' hK => ?_) AllReadyH.nil)
                rw [if_pos (by rfl)]
                go_wp2_with (go_at_call 13; refine (eqRecord13 (O p) x _ HSM.out).mono ?_; rintro e w21 ⟨rfl, hg21⟩)
                refine hK.out _ _ ⟨hHeld.1.kept (hg21.block B hBW2 (by simp)), hHeld.2.kept (hg21.block _ hNW2 (by simp))⟩ (fun hHeld => ?_)
                clear hK
                simp only [List.setIfInBounds_toArray, List.set_cons_zero, List.set_cons_succ]
                refine take_at (i := 7) (v := .bool false) (some 93) rfl rfl (by kernel_rfl) (by kernel_rfl) (by kernel_rfl) (fun _ _ _ h => h) (Or.inl ⟨by rfl, fun W _ => by go_simp⟩) hHeld ?_
                simp only [Act.put, List.setIfInBounds_toArray, List.set_cons_zero, List.set_cons_succ]
                refine wpAnyH_done (by kernel_rfl) ?_ _
                have hg20' : wr.grownBy w20 none := ⟨hg20.os, hg20.tape, hg20.output, hg20.size, hg20.block⟩
                have hG21 : wc.grownBy w21 none := grownBy_trans (grownBy_trans hGx hg20') hg21
                go_wp2
                go_roundw
                case rel => exact ⟨i + 1, p + 1, by omega, by go_num, by go_num, (by show _ = _; rw [posN, if_pos HH.out, HP.out]), hG21⟩
                case measure => simp [intOf]; omega
          · have HE : Hid (hasE R i i = true) := hE
            have HH : Hid (head R i = false) := by show _ = _; unfold head; rw [← HR.out, hg, hE]; rfl
            clear hg hE
            go_wp2_with (first
            | ((with_reducible refine wpList_load_rec rfl _ _ rfl b (off + i * 19) ?_ r hck isRow36 ?_); rfl)
            | ((with_reducible refine wpList_new_rec36 rfl rfl wr.heap.size rfl ?_); intro w5 hb5 hg5 hs5)
            | ((with_reducible refine wpList_store_rec rfl _ _ _ rfl wr.heap.size 0 r ?_ ?_ ?_ isRow36 ?_); rfl; rfl; (obtain ⟨z, hz⟩ := hb5; exact there_row hz); intro w6 h6 ho6 hf6 hg6 hs6; have hT6 : w6.there wr.heap.size 0 19 := by { obtain ⟨z, hz⟩ := hb5; exact fun q hq => ⟨by rw [h6 q hq]; rfl, by rw [hf6]; exact (there_row hz q hq).2⟩ }; have hg56 : wr.grownBy w6 none := grownBy_new hg5 hg6 (fun q hq => by cases hq; exact Nat.le_refl _); clear ho6 hf6 hg5 hg6 hb5)
            | ((with_reducible refine wpList_load_rec rfl _ _ rfl wr.heap.size 0 ?_ r h6 isRow36 ?_); rfl)
              | (go_at_call 9; refine (grouped9 r _).mono ?_; rintro e w7 ⟨he, hg7⟩; rw [HG.out] at he; subst he; have hG7 : wc.grownBy w7 none := grownBy_trans (grownBy_trans hG hg56) hg7; have hI7 : In w7 (some ⟨b, off, none⟩) n R := hs4.later (below_of hG7))
              | (go_at_call 10; refine (hasEarlier10 _ n c i R _ hI7 hlt hn).mono ?_; rintro e w8 ⟨he, hg8⟩; rw [HE.out] at he; subst he))
            go_roundw
            case rel => exact ⟨i + 1, p, by omega, by go_num, rfl, by rw [posN, HH.out, HP.out]; rfl, grownBy_trans hG7 hg8⟩
            case measure => simp [intOf]; omega
      · have hge : (n : Int) ≤ i := by omega
        obtain rfl : n = i := by omega
        obtain rfl : p = m := by rw [HP.out, HL.out.len]
        clear hlt
        go_wp2
        go_loopw [9] (fun vq wr => ∃ q : Nat, p ≤ q ∧ q ≤ n ∧ vq = .int .i64 q ∧ wc.grownBy wr none) (fun vq _ => n - (intOf vq).toNat)
        case atStart => exact ⟨p, Nat.le_refl _, by omega, rfl, hG⟩
        case round =>
          clear hG
          obtain ⟨q, hpq, hq, rfl, hG⟩ := hrel
          by_cases hqn : q < n
          · obtain ⟨b, off, rfl, hb, hc⟩ := hs4 (by omega)
            have hqn' : (q : Int) < n := by omega
            obtain ⟨y, hy⟩ : ∃ y, y = R q := ⟨_, rfl⟩
            have hY : RecAt wr b (off + q * 19) y := by rw [hy]; exact (hc q hqn).kept (hG.block b hb (by simp))
            have hZ : RecAt wr B (q * 19) y := by
              have := hR4.1 q hqn
              rw [mix_ge hpq, ← hy] at this
              exact this.kept (hG.block B hB4 (by simp))
            have hbw : b < wr.heap.size := hY.lt
            have hBw : B < wr.heap.size := hZ.lt
            clear hy hc
            go_wp2
            refine wp_region_held_drew (S := fun W => RecAt W B (q * 19) y ∧ RecAt W b (off + q * 19) y) (by kernel_rfl) ⟨hZ, hY⟩ (fun hHeld => ?_)
            show wpAnyH _ _ _ _ _ 11 #[false, false, false, false, false, false, false, false, false, false, false] _ _
            refine take_at (i := 0) (v := .slice (some ⟨B, 0, none⟩) n n) (some 107) rfl rfl (by kernel_rfl) (by kernel_rfl) (by kernel_rfl) (fun _ _ _ h => h) (Or.inl ⟨by rfl, fun W _ => rfl⟩) hHeld ?_
            simp only [Act.put, List.setIfInBounds_toArray, List.set_cons_zero, List.set_cons_succ]
            refine take_at (i := 1) (v := .int .i64 (q : Int)) (some 108) rfl rfl (by kernel_rfl) (by kernel_rfl) (by kernel_rfl) (fun _ _ _ h => h) (Or.inl ⟨by rfl, fun W _ => rfl⟩) hHeld ?_
            simp only [Act.put, List.setIfInBounds_toArray, List.set_cons_zero, List.set_cons_succ]
            refine take_at (i := 2) (v := .pointer (some ⟨B, q * 19, none⟩)) (some 109) rfl rfl (by kernel_rfl) (by kernel_rfl) (by kernel_rfl) (fun _ _ _ h => h) (Or.inl ⟨by rfl, fun W _ => by go_simp⟩) hHeld ?_
            simp only [Act.put, List.setIfInBounds_toArray, List.set_cons_zero, List.set_cons_succ]
            refine take_at (i := 3) (v := y.val) (some 110) rfl rfl (by kernel_rfl) (by kernel_rfl) (by kernel_rfl) (fun _ _ _ h => h) (yieldsIf_load_mid (by rfl) 34 _ rfl B (q * 19) rfl (Rc.list y) _ (fun W hW => RecAt.range hW.1) Try.underlying34 rfl row34) hHeld ?_
            simp only [Act.put, List.setIfInBounds_toArray, List.set_cons_zero, List.set_cons_succ]
            refine take_at (i := 4) (v := .slice (some ⟨b, off, none⟩) n c) (some 111) rfl rfl (by kernel_rfl) (by kernel_rfl) (by kernel_rfl) (fun _ _ _ h => h) (Or.inl ⟨by rfl, fun W _ => rfl⟩) hHeld ?_
            simp only [Act.put, List.setIfInBounds_toArray, List.set_cons_zero, List.set_cons_succ]
            refine take_at (i := 5) (v := .int .i64 (q : Int)) (some 112) rfl rfl (by kernel_rfl) (by kernel_rfl) (by kernel_rfl) (fun _ _ _ h => h) (Or.inl ⟨by rfl, fun W _ => rfl⟩) hHeld ?_
            simp only [Act.put, List.setIfInBounds_toArray, List.set_cons_zero, List.set_cons_succ]
            refine take_at (i := 6) (v := .pointer (some ⟨b, off + q * 19, none⟩)) (some 113) rfl rfl (by kernel_rfl) (by kernel_rfl) (by kernel_rfl) (fun _ _ _ h => h) (Or.inl ⟨by rfl, fun W _ => by go_simp⟩) hHeld ?_
            simp only [Act.put, List.setIfInBounds_toArray, List.set_cons_zero, List.set_cons_succ]
            refine take_at (i := 7) (v := y.val) (some 114) rfl rfl (by kernel_rfl) (by kernel_rfl) (by kernel_rfl) (fun _ _ _ h => h) (yieldsIf_load_mid (by rfl) 36 _ rfl b (off + q * 19) rfl (Rc.list y) _ (fun W hW => RecAt.range hW.2) Try.underlying36 rfl row36) hHeld ?_
            simp only [Act.put, List.setIfInBounds_toArray, List.set_cons_zero, List.set_cons_succ]
            refine wpAnyH_ready (rs := [8]) (by kernel_rfl) (by simp) (AllReadyH.cons rfl (fun K' hK => ?_) AllReadyH.nil)
            rw [if_pos (by rfl)]
            go_wp2_with (go_at_call 14; refine (toRecord14 y _).mono ?_; rintro e w20 ⟨rfl, hg20⟩)
            refine hK.out _ _ ⟨hHeld.1.kept (hg20.block B hBw (by simp)), hHeld.2.kept (hg20.block b hbw (by simp))⟩ (fun hHeld => ?_)
            clear hK
            simp only [List.setIfInBounds_toArray, List.set_cons_zero, List.set_cons_succ]
            have hBw2 : B < w20.heap.size := Nat.lt_of_lt_of_le hBw hg20.size
            have hbw2 : b < w20.heap.size := Nat.lt_of_lt_of_le hbw hg20.size
            refine wpAnyH_ready (rs := [9]) (by kernel_rfl) (by simp) (AllReadyH.cons rfl (fun K' hK => ?_) AllReadyH.nil)
            rw [if_pos (by rfl)]
            go_wp2_with (go_at_call 13; refine (eqRecord13 y y _ (Same.refl y)).mono ?_; rintro e w21 ⟨rfl, hg21⟩)
            refine hK.out _ _ ⟨hHeld.1.kept (hg21.block B hBw2 (by simp)), hHeld.2.kept (hg21.block b hbw2 (by simp))⟩ (fun hHeld => ?_)
            clear hK
            simp only [List.setIfInBounds_toArray, List.set_cons_zero, List.set_cons_succ]
            refine take_at (i := 10) (v := .bool false) (some 117) rfl rfl (by kernel_rfl) (by kernel_rfl) (by kernel_rfl) (fun _ _ _ h => h) (Or.inl ⟨by rfl, fun W _ => by go_simp⟩) hHeld ?_
            simp only [Act.put, List.setIfInBounds_toArray, List.set_cons_zero, List.set_cons_succ]
            refine wpAnyH_done (by kernel_rfl) ?_ _
            have hg20' : wr.grownBy w20 none := ⟨hg20.os, hg20.tape, hg20.output, hg20.size, hg20.block⟩
            have hG21 : wc.grownBy w21 none := grownBy_trans (grownBy_trans hG hg20') hg21
            go_wp2
            go_roundw
            case rel => exact ⟨q + 1, by omega, by omega, by go_num, hG21⟩
            case measure => simp [intOf]; omega
          · have hge : (n : Int) ≤ q := by omega
            go_wp2
            go_ret
            exact ⟨rfl, HD4.out.trans (Below.mono (below_of hG) HD4.out.size)⟩
end Go.Proofs.Qxb6604053a
