import Derived.Test.Qxb6604053aInto
namespace Go.Proofs.Qxb6604053a
open Go.RowKit

theorem take_at {P : Program} {ops : Array Oper} {Q : Exit → Act → World → Prop} {md : Region.Mode} {S : World → Prop} {i : Nat} {oi : Oper} {v : Value} {fuel : Nat} {listed : Array Bool} {a : Act} {w : World} (d : Option Tmp) (hi : ops[i]? = some oi) (hd : oi.dst = d)
    (hs : Region.noSelect ops = true) (hf : Region.free md ops listed i = true) (hr : (Region.ready md ops listed).contains i = true)
    (hQ : ∀ c a w, Q (.panic c) (a.put oi.dst v) w → Q (.panic c) a w) (hy : YieldsIf P ops S oi v a) (hS : S w)
    (h : wpAnyH P md ops Q S fuel (listed.setIfInBounds i true) (a.put d v) w) : wpAnyH P md ops Q S (fuel + 1) listed a w := by
  subst hd
  exact wpAnyH_take hi hs hf hr hQ hy hS h
theorem hasE_mono {R : Nat → Rc} {i j n : Nat} (h : hasE R i j = true) (hj : j ≤ n) : hasE R i n = true := by
  obtain ⟨q, h1, h2⟩ := (hasE_iff j).1 h
  exact (hasE_iff n).2 ⟨q, by omega, h2⟩

set_option maxRecDepth 100000 in
set_option maxHeartbeats 2000000 in
theorem hasEarlier10 (a : Option Addr) (n c i : Nat) (R : Nat → Rc) (w : World) (hs : In w a n R) (hi : i < n) (hn : n ≤ 1048576) :
    Calls Try.prog 10 #[.slice a n c, .int .i64 (i : Int)] w fun e w' => e = .returned (.bool (hasE R i i)) ∧ w.grownBy w' none := by
  go_enter Try.func10, Try.ntmps10
  go_wp2
  go_loopw [5] (fun v wr => ∃ j : Nat, j ≤ i ∧ v = .int .i64 j ∧ hasE R i j = false ∧ w.grownBy wr none) (fun v _ => i - (intOf v).toNat)
  case atStart => exact ⟨0, Nat.zero_le _, rfl, rfl, ⟨rfl, rfl, rfl, Nat.le_refl _, fun _ _ _ => rfl⟩⟩
  case round =>
    obtain ⟨j, hj, rfl, hE, hG⟩ := hrel
    by_cases hlt : j < i
    · obtain ⟨b, off, rfl, hb, hc⟩ := hs (by omega)
      have hlt' : (j : Int) < i := by omega
      have hjn : (j : Int) < n := by omega
      have hin : (i : Int) < n := by omega
      obtain ⟨x, hx⟩ : ∃ x, x = R j := ⟨_, rfl⟩
      obtain ⟨y, hy⟩ : ∃ y, y = R i := ⟨_, rfl⟩
      have h1 : RecAt wr b (off + j * 19) x := by rw [hx]; exact (hc j (by omega)).kept (hG.block b hb (by simp))
      have h2 : RecAt wr b (off + i * 19) y := by rw [hy]; exact (hc i (by omega)).kept (hG.block b hb (by simp))
      have hbr : b < wr.heap.size := h1.lt
      have HX : Hid (x = R j) := hx
      have HY : Hid (y = R i) := hy
      have HE : Hid (hasE R i j = false) := hE
      clear hs hc hx hy hE
      go_wp2
      refine wp_region_held_drew (S := fun W => RecAt W b (off + j * 19) x ∧ RecAt W b (off + i * 19) y) (by kernel_rfl) ⟨h1, h2⟩ (fun hHeld => ?_)
      show wpAnyH _ _ _ _ _ 16 #[false, false, false, false, false, false, false, false, false, false, false, false, false, false, false, false] _ _
      refine take_at (i := 0) (v := .slice (some ⟨b, off, none⟩) n c) (some 11) rfl rfl (by kernel_rfl) (by kernel_rfl) (by kernel_rfl) (fun _ _ _ h => h) (Or.inl ⟨by rfl, fun W _ => rfl⟩) hHeld ?_
      simp only [Act.put, List.setIfInBounds_toArray, List.set_cons_zero, List.set_cons_succ]
      refine take_at (i := 1) (v := .int .i64 (j : Int)) (some 12) rfl rfl (by kernel_rfl) (by kernel_rfl) (by kernel_rfl) (fun _ _ _ h => h) (Or.inl ⟨by rfl, fun W _ => rfl⟩) hHeld ?_
      simp only [Act.put, List.setIfInBounds_toArray, List.set_cons_zero, List.set_cons_succ]
      refine take_at (i := 2) (v := .pointer (some ⟨b, off + j * 19, none⟩)) (some 13) rfl rfl (by kernel_rfl) (by kernel_rfl) (by kernel_rfl) (fun _ _ _ h => h) (Or.inl ⟨by rfl, fun W _ => by go_simp⟩) hHeld ?_
      simp only [Act.put, List.setIfInBounds_toArray, List.set_cons_zero, List.set_cons_succ]
      refine take_at (i := 3) (v := x.val) (some 14) rfl rfl (by kernel_rfl) (by kernel_rfl) (by kernel_rfl) (fun _ _ _ h => h) (yieldsIf_load_mid (by rfl) 36 _ rfl b (off + j * 19) rfl (Rc.list x) _ (fun W hW => RecAt.range hW.1) Try.underlying36 rfl row36) hHeld ?_
      simp only [Act.put, List.setIfInBounds_toArray, List.set_cons_zero, List.set_cons_succ]
      cases hg : x.grp
      · have HG : Hid (x.grp = false) := hg
        refine wpAnyH_ready (rs := [4]) (by kernel_rfl) (by simp) (AllReadyH.cons rfl (fun K' hK => ?_) AllReadyH.nil)
        rw [if_pos (by rfl)]
        go_wp2_with (go_at_call 9; refine (grouped9 x _).mono ?_; rintro e w2 ⟨he, hg2⟩; rw [HG.out] at he; subst he)
        refine hK.out _ _ ⟨hHeld.1.kept (hg2.block b hbr (by simp)), hHeld.2.kept (hg2.block b hbr (by simp))⟩ (fun hHeld => ?_)
        clear hK
        simp only [List.setIfInBounds_toArray, List.set_cons_zero, List.set_cons_succ]
        refine take_at (i := 5) (v := .bool false) (some 16) rfl rfl (by kernel_rfl) (by kernel_rfl) (by kernel_rfl) (fun _ _ _ h => h) (Or.inl ⟨by rfl, fun W _ => rfl⟩) hHeld ?_
        simp only [Act.put, List.setIfInBounds_toArray, List.set_cons_zero, List.set_cons_succ]
        refine take_at (i := 6) (v := undef) (some 17) rfl rfl (by kernel_rfl) (by kernel_rfl) (by kernel_rfl) (fun _ _ _ h => h) (Or.inr ⟨by kernel_rfl, rfl⟩) hHeld ?_
        simp only [Act.put, List.setIfInBounds_toArray, List.set_cons_zero, List.set_cons_succ]
        refine take_at (i := 7) (v := undef) (some 18) rfl rfl (by kernel_rfl) (by kernel_rfl) (by kernel_rfl) (fun _ _ _ h => h) (Or.inr ⟨by kernel_rfl, rfl⟩) hHeld ?_
        simp only [Act.put, List.setIfInBounds_toArray, List.set_cons_zero, List.set_cons_succ]
        refine take_at (i := 8) (v := undef) (some 19) rfl rfl (by kernel_rfl) (by kernel_rfl) (by kernel_rfl) (fun _ _ _ h => h) (Or.inr ⟨by kernel_rfl, rfl⟩) hHeld ?_
        simp only [Act.put, List.setIfInBounds_toArray, List.set_cons_zero, List.set_cons_succ]
        refine take_at (i := 9) (v := undef) (some 20) rfl rfl (by kernel_rfl) (by kernel_rfl) (by kernel_rfl) (fun _ _ _ h => h) (Or.inr ⟨by kernel_rfl, rfl⟩) hHeld ?_
        simp only [Act.put, List.setIfInBounds_toArray, List.set_cons_zero, List.set_cons_succ]
        refine take_at (i := 10) (v := undef) (some 21) rfl rfl (by kernel_rfl) (by kernel_rfl) (by kernel_rfl) (fun _ _ _ h => h) (Or.inr ⟨by kernel_rfl, rfl⟩) hHeld ?_
        simp only [Act.put, List.setIfInBounds_toArray, List.set_cons_zero, List.set_cons_succ]
        refine take_at (i := 11) (v := undef) (some 22) rfl rfl (by kernel_rfl) (by kernel_rfl) (by kernel_rfl) (fun _ _ _ h => h) (Or.inr ⟨by kernel_rfl, rfl⟩) hHeld ?_
        simp only [Act.put, List.setIfInBounds_toArray, List.set_cons_zero, List.set_cons_succ]
        refine take_at (i := 12) (v := undef) (some 23) rfl rfl (by kernel_rfl) (by kernel_rfl) (by kernel_rfl) (fun _ _ _ h => h) (Or.inr ⟨by kernel_rfl, rfl⟩) hHeld ?_
        simp only [Act.put, List.setIfInBounds_toArray, List.set_cons_zero, List.set_cons_succ]
        refine take_at (i := 13) (v := undef) (some 24) rfl rfl (by kernel_rfl) (by kernel_rfl) (by kernel_rfl) (fun _ _ _ h => h) (Or.inr ⟨by kernel_rfl, rfl⟩) hHeld ?_
        simp only [Act.put, List.setIfInBounds_toArray, List.set_cons_zero, List.set_cons_succ]
        refine take_at (i := 14) (v := undef) (some 25) rfl rfl (by kernel_rfl) (by kernel_rfl) (by kernel_rfl) (fun _ _ _ h => h) (Or.inr ⟨by kernel_rfl, rfl⟩) hHeld ?_
        simp only [Act.put, List.setIfInBounds_toArray, List.set_cons_zero, List.set_cons_succ]
        refine take_at (i := 15) (v := .bool false) (some 26) rfl rfl (by kernel_rfl) (by kernel_rfl) (by kernel_rfl) (fun _ _ _ h => h) (Or.inl ⟨by rfl, fun W _ => rfl⟩) hHeld ?_
        simp only [Act.put, List.setIfInBounds_toArray, List.set_cons_zero, List.set_cons_succ]
        refine wpAnyH_done (by kernel_rfl) ?_ _
        go_wp2
        go_roundw
        case rel =>
          have hG2 : w.grownBy w2 none := ⟨hg2.os.trans hG.os, hg2.tape.trans hG.tape, hg2.output.trans hG.output, Nat.le_trans hG.size hg2.size, fun k hk hne => (hg2.block k (Nat.lt_of_lt_of_le hk hG.size) hne).trans (hG.block k hk hne)⟩
          exact ⟨j + 1, by omega, by go_num, by rw [hasE, HE.out, ← HX.out, HG.out]; rfl, hG2⟩
        case measure => simp [intOf]; omega
      · have HG : Hid (x.grp = true) := hg
        refine wpAnyH_ready (rs := [4]) (by kernel_rfl) (by simp) (AllReadyH.cons rfl (fun K' hK => ?_) AllReadyH.nil)
        rw [if_pos (by rfl)]
        go_wp2_with (go_at_call 9; refine (grouped9 x _).mono ?_; rintro e w2 ⟨he, hg2⟩; rw [HG.out] at he; subst he)
        refine hK.out _ _ ⟨hHeld.1.kept (hg2.block b hbr (by simp)), hHeld.2.kept (hg2.block b hbr (by simp))⟩ (fun hHeld => ?_)
        clear hK
        simp only [List.setIfInBounds_toArray, List.set_cons_zero, List.set_cons_succ]
        have hbr2 : b < w2.heap.size := Nat.lt_of_lt_of_le hbr hg2.size
        refine take_at (i := 5) (v := .bool true) (some 16) rfl rfl (by kernel_rfl) (by kernel_rfl) (by kernel_rfl) (fun _ _ _ h => h) (Or.inl ⟨by rfl, fun W _ => rfl⟩) hHeld ?_
        simp only [Act.put, List.setIfInBounds_toArray, List.set_cons_zero, List.set_cons_succ]
        refine take_at (i := 6) (v := .slice (some ⟨b, off, none⟩) n c) (some 17) rfl rfl (by kernel_rfl) (by kernel_rfl) (by kernel_rfl) (fun _ _ _ h => h) (Or.inl ⟨by rfl, fun W _ => rfl⟩) hHeld ?_
        simp only [Act.put, List.setIfInBounds_toArray, List.set_cons_zero, List.set_cons_succ]
        refine take_at (i := 7) (v := .int .i64 (j : Int)) (some 18) rfl rfl (by kernel_rfl) (by kernel_rfl) (by kernel_rfl) (fun _ _ _ h => h) (Or.inl ⟨by rfl, fun W _ => rfl⟩) hHeld ?_
        simp only [Act.put, List.setIfInBounds_toArray, List.set_cons_zero, List.set_cons_succ]
        refine take_at (i := 8) (v := .pointer (some ⟨b, off + j * 19, none⟩)) (some 19) rfl rfl (by kernel_rfl) (by kernel_rfl) (by kernel_rfl) (fun _ _ _ h => h) (Or.inl ⟨by rfl, fun W _ => by go_simp⟩) hHeld ?_
        simp only [Act.put, List.setIfInBounds_toArray, List.set_cons_zero, List.set_cons_succ]
        refine take_at (i := 9) (v := x.val) (some 20) rfl rfl (by kernel_rfl) (by kernel_rfl) (by kernel_rfl) (fun _ _ _ h => h) (yieldsIf_load_mid (by rfl) 36 _ rfl b (off + j * 19) rfl (Rc.list x) _ (fun W hW => RecAt.range hW.1) Try.underlying36 rfl row36) hHeld ?_
        simp only [Act.put, List.setIfInBounds_toArray, List.set_cons_zero, List.set_cons_succ]
        refine take_at (i := 10) (v := .slice (some ⟨b, off, none⟩) n c) (some 21) rfl rfl (by kernel_rfl) (by kernel_rfl) (by kernel_rfl) (fun _ _ _ h => h) (Or.inl ⟨by rfl, fun W _ => rfl⟩) hHeld ?_
        simp only [Act.put, List.setIfInBounds_toArray, List.set_cons_zero, List.set_cons_succ]
        refine take_at (i := 11) (v := .int .i64 (i : Int)) (some 22) rfl rfl (by kernel_rfl) (by kernel_rfl) (by kernel_rfl) (fun _ _ _ h => h) (Or.inl ⟨by rfl, fun W _ => rfl⟩) hHeld ?_
        simp only [Act.put, List.setIfInBounds_toArray, List.set_cons_zero, List.set_cons_succ]
        refine take_at (i := 12) (v := .pointer (some ⟨b, off + i * 19, none⟩)) (some 23) rfl rfl (by kernel_rfl) (by kernel_rfl) (by kernel_rfl) (fun _ _ _ h => h) (Or.inl ⟨by rfl, fun W _ => by go_simp⟩) hHeld ?_
        simp only [Act.put, List.setIfInBounds_toArray, List.set_cons_zero, List.set_cons_succ]
        refine take_at (i := 13) (v := y.val) (some 24) rfl rfl (by kernel_rfl) (by kernel_rfl) (by kernel_rfl) (fun _ _ _ h => h) (yieldsIf_load_mid (by rfl) 36 _ rfl b (off + i * 19) rfl (Rc.list y) _ (fun W hW => RecAt.range hW.2) Try.underlying36 rfl row36) hHeld ?_
        simp only [Act.put, List.setIfInBounds_toArray, List.set_cons_zero, List.set_cons_succ]
        refine wpAnyH_ready (rs := [14]) (by kernel_rfl) (by simp) (AllReadyH.cons rfl (fun K' hK => ?_) AllReadyH.nil)
        rw [if_pos (by rfl)]
        go_wp2_with (go_at_call 11; refine (sameKey11 x y _).mono ?_; rintro e w3 ⟨he, hg3⟩; subst he)
        refine hK.out _ _ ⟨hHeld.1.kept (hg3.block b hbr2 (by simp)), hHeld.2.kept (hg3.block b hbr2 (by simp))⟩ (fun hHeld => ?_)
        clear hK
        simp only [List.setIfInBounds_toArray, List.set_cons_zero, List.set_cons_succ]
        refine take_at (i := 15) (v := .bool (sameK x y)) (some 26) rfl rfl (by kernel_rfl) (by kernel_rfl) (by kernel_rfl) (fun _ _ _ h => h) (Or.inl ⟨by rfl, fun W _ => rfl⟩) hHeld ?_
        simp only [Act.put, List.setIfInBounds_toArray, List.set_cons_zero, List.set_cons_succ]
        refine wpAnyH_done (by kernel_rfl) ?_ _
        have hG2 : w.grownBy w2 none := ⟨hg2.os.trans hG.os, hg2.tape.trans hG.tape, hg2.output.trans hG.output, Nat.le_trans hG.size hg2.size, fun k hk hne => (hg2.block k (Nat.lt_of_lt_of_le hk hG.size) hne).trans (hG.block k hk hne)⟩
        have hG3 := grownBy_trans hG2 hg3
        cases hk : sameK x y
        · have HSK : Hid (sameK x y = false) := hk
          go_wp2
          go_roundw
          case rel => exact ⟨j + 1, by omega, by go_num, by rw [hasE, HE.out, ← HX.out, ← HY.out, HG.out, HSK.out]; rfl, hG3⟩
          case measure => simp [intOf]; omega
        · have HSK : Hid (sameK x y = true) := hk
          go_wp2
          go_ret
          have ht : hasE R i (j + 1) = true := by rw [hasE, ← HX.out, ← HY.out, HG.out, HSK.out]; simp
          exact ⟨by rw [hasE_mono ht (by omega)]; rfl, hG3⟩
    · have hge : (i : Int) ≤ j := by omega
      obtain rfl : i = j := by omega
      clear hlt
      go_wp2
      go_ret
      exact ⟨by rw [hE]; rfl, hG⟩
end Go.Proofs.Qxb6604053a
