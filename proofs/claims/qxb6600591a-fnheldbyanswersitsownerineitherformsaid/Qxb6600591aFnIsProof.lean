import Derived.Test.Qxb6600591aFnIs
import Derived.ProofKit
import Derived.ShutString
import Derived.ChangeOld
namespace Go.Proofs.Qxb6600591a
open Go.ChangeShapes Go.WideShapes Go.ChangeAt Go.RowKit
open Go.ChangeMaps (open_string shut_string)

theorem cons_mk {H : Type} {enc : TypeId × Value → H} {P : Program} {w : World} {base : Nat} {sp : Nat → Bool} {held : Bool} {t : TypeId} {ts : List TypeId} {v : Value} {vs : List Value} {d : DataW H} {ds : List (DataW H)} {p p' : List MemPlace}
    (h : DataW.Trod enc P w base sp held t v d p) (k : DataW.TrodAll enc P w base sp held ts vs ds p') : DataW.TrodAll enc P w base sp held (t :: ts) (v :: vs) (d :: ds) (p ++ p') := ⟨p, p', h, k, rfl⟩
theorem own : ownKnob Try.prog.godebug = none := by kernel_rfl
theorem laidOut : laidOutB Try.prog = true := by kernel_rfl
theorem types22 : Try.prog.cellTypes Try.prog.depth 22 = some (List.replicate 29 5) := by kernel_rfl
theorem cells22 : Try.prog.cellsOf 22 = 29 := by kernel_rfl
/-- An array of 29 bytes that came in by value. -/
theorem open22 {W : World} {base : Nat} {v : Value} (h : Value.okWide Try.prog W .any base 22 v) : ∃ cs : List Value, v = .agg cs.toArray ∧ cs.length = 29 ∧ cs.toArray.all (·.oneCell') = true := by
  simp only [Value.okWide, Try.underlying22] at h
  obtain ⟨cs, rfl, hs, ts, hts, _, hc⟩ := h
  rw [types22] at hts
  obtain rfl : List.replicate 29 5 = ts := Option.some.inj hts
  rw [cells22] at hs
  refine ⟨cs.toList, by rw [Array.toArray_toList], by rw [Array.length_toList]; exact hs, ?_⟩
  rw [Array.toArray_toList, Array.all_eq_true_iff_forall_mem]
  intro c hcm
  obtain ⟨i, hi, rfl⟩ := Array.mem_iff_getElem.1 hcm
  obtain ⟨u, hu, hok⟩ := hc i cs[i] (Array.getElem?_eq_getElem hi)
  have hu5 : u = 5 := by
    have := List.mem_of_getElem? hu
    exact List.eq_of_mem_replicate this
  subst hu5
  obtain ⟨n, hn⟩ := okWide_int (t := 5) (v := cs[i]) Try.underlying5 (by simpa only [Value.okWide, Try.underlying5] using hok)
  rw [hn]; rfl

set_option maxRecDepth 100000 in
theorem fnIs_lifted (os : Os) (started : os.Started) (H : Type) (enc : TypeId × Value → H) :
    ReturnsInHanded {} Try.checked os 3 .any (Rows.fnIsAnswersItsIDInEitherFormSpec.pre6 enc Try.prog Try.f3 Rows.fnIsAnswersItsIDInEitherFormRow.domain false) (Rows.fnIsAnswersItsIDInEitherFormSpec.post enc Try.prog Try.f3 false true false false) := by
  refine returnsInHanded_of_change (C := Try.checked) own started (by kernel_rfl) Try.func3
    (ChangeSpec.witness6 (enc := enc) (C := Try.checked) false ⟨#[], #[.string ⟨#[]⟩, .string ⟨#[]⟩, .int .u8 0, .agg #[.int .u8 0, .int .u8 0, .int .u8 0, .int .u8 0, .int .u8 0, .int .u8 0, .int .u8 0, .int .u8 0, .int .u8 0, .int .u8 0, .int .u8 0, .int .u8 0, .int .u8 0, .int .u8 0, .int .u8 0, .int .u8 0, .int .u8 0, .int .u8 0, .int .u8 0, .int .u8 0, .int .u8 0, .int .u8 0, .int .u8 0, .int .u8 0, .int .u8 0, .int .u8 0, .int .u8 0, .int .u8 0, .int .u8 0], .string ⟨#[]⟩], []⟩ 8 (by kernel_rfl) (by kernel_rfl) (by kernel_rfl) (by kernel_rfl)) ?_
  intro W base args ds gs before hval0 hW hcnd _
  have hval : ∀ (j : Nat) t v, Try.f3.params[j]? = some t → args[j]? = some v → Value.okWide Try.prog W .any base t v := hval0
  have hW' := hW
  obtain ⟨p, q, hA0, hV, rfl, hfz, hnd⟩ := hW
  have hA : DataW.TrodAll enc Try.prog W 0 (fun _ => true) true Try.f3.params.toList args.toList ds p := hA0
  rw [Try.params3] at hA hval
  obtain ⟨v0, vs0, d0, ds0, p0, q0, hargs, rfl, rfl, h0, r0⟩ := trodAll_cons hA
  obtain ⟨v1, vs1, d1, ds1, p1, q1, rfl, rfl, rfl, h1, r1⟩ := trodAll_cons r0
  obtain ⟨v2, vs2, d2, ds2, p2, q2, rfl, rfl, rfl, h2, r2⟩ := trodAll_cons r1
  obtain ⟨v3, vs3, d3, ds3, p3, q3, rfl, rfl, rfl, h3, r3⟩ := trodAll_cons r2
  obtain ⟨v4, vs4, d4, ds4, p4, q4, rfl, rfl, rfl, h4, r4⟩ := trodAll_cons r3
  obtain ⟨rfl, rfl, rfl⟩ := trodAll_nil r4
  obtain rfl : args = #[v0, v1, v2, v3, v4] := by cases args; simp_all
  obtain ⟨rfl, rfl⟩ := trodVars_none hV
  have lt0 : ∀ x ∈ p0, x.block < W.heap.size := by obtain ⟨m, hm⟩ := h0; exact DataW.trod_lt m _ _ _ hm
  have lt1 : ∀ x ∈ p1, x.block < W.heap.size := by obtain ⟨m, hm⟩ := h1; exact DataW.trod_lt m _ _ _ hm
  have lt2 : ∀ x ∈ p2, x.block < W.heap.size := by obtain ⟨m, hm⟩ := h2; exact DataW.trod_lt m _ _ _ hm
  have lt3 : ∀ x ∈ p3, x.block < W.heap.size := by obtain ⟨m, hm⟩ := h3; exact DataW.trod_lt m _ _ _ hm
  have lt4 : ∀ x ∈ p4, x.block < W.heap.size := by obtain ⟨m, hm⟩ := h4; exact DataW.trod_lt m _ _ _ hm
  obtain ⟨s0, rfl⟩ := okWide_string Try.underlying9 (hval 0 9 v0 rfl rfl)
  obtain ⟨s1, rfl⟩ := okWide_string Try.underlying9 (hval 1 9 v1 rfl rfl)
  obtain ⟨n2, rfl⟩ := okWide_int Try.underlying5 (hval 2 5 v2 rfl rfl)
  obtain ⟨cs, rfl, hcs, hcs1⟩ := open22 (hval 3 22 v3 rfl rfl)
  obtain ⟨s4, rfl⟩ := okWide_string Try.underlying9 (hval 4 9 v4 rfl rfl)
  clear hA0 hval0
  refine (walkIs s0 s1 s4 n2 cs hcs hcs1 W).mono fun e W' ⟨he, bel⟩ => ?_
  subst he
  exact ⟨_, rfl, _, _, _, [], _, [], hW', trodAll_mk1 (shut_bool Try.underlying4 _),
    (cons_mk (Below.trod laidOut (by kernel_rfl) (of_decide_eq_true (by kernel_rfl)) h0 bel lt0)
      (cons_mk (Below.trod laidOut (by kernel_rfl) (of_decide_eq_true (by kernel_rfl)) h1 bel lt1)
        (cons_mk (Below.trod laidOut (by kernel_rfl) (of_decide_eq_true (by kernel_rfl)) h2 bel lt2)
          (cons_mk (Below.trod laidOut (by kernel_rfl) (of_decide_eq_true (by kernel_rfl)) h3 bel lt3)
            (cons_mk (Below.trod laidOut (by kernel_rfl) (of_decide_eq_true (by kernel_rfl)) h4 bel lt4) trodAll_mk0))))), rfl, bel.frame _, fun h => by cases h⟩

theorem fnIs_holds : Rows.FnIsAnswersItsIDInEitherFormSaid :=
  OpenClaim.holds_of_wide 3 Try.f3 rfl rfl rfl rfl rfl rfl rfl ⟨rfl, rfl, rfl, rfl, rfl⟩ rfl rfl rfl rfl rfl (by kernel_rfl) Try.func3 (by kernel_rfl)
    (of_decide_eq_true (by kernel_rfl)) (by unfold Func.isWrapper; first | (rw [if_pos (by decide +kernel)]; kernel_rfl) | (rw [if_neg (by decide +kernel)]; exact ⟨rfl, rfl⟩))
    (fun os started H enc _ => fnIs_lifted os started H enc)
end Go.Proofs.Qxb6600591a
