import Derived.Test.Qxb6600975aTax2
import Derived.Test.Qxb6600975aOpen
namespace Go.Proofs.Qxb6600975a
open Go.ChangeShapes Go.WideShapes Go.ChangeAt Go.RowKit

theorem open39 {H : Type} {enc : TypeId × Value → H} {W : World} {a : Option Addr} {n c : Nat} {d : DataW H} {p : List MemPlace} (h : DataW.Trod enc Try.prog W 0 (fun _ => true) true 39 (.slice a n c) d p) :
    ∃ cc rb, TaxRows W a n cc rb := by
  obtain ⟨_, ho⟩ := open_flat Try.underlying39 Try.underlying48 (by kernel_rfl) (by kernel_rfl) h
  by_cases hn : 0 < n
  · obtain ⟨b, off, rfl, hb, hc⟩ := ho hn (by decide)
    refine ⟨fun i => strAt W ⟨b, off + i * 2, none⟩, fun i => intAt W ⟨b, off + i * 2 + 1, none⟩, fun _ => ⟨b, off, rfl, hb, fun i hi => ?_⟩⟩
    obtain ⟨v0, m0, y0, c0, t0⟩ := hc i hi 0 _ rfl
    obtain ⟨v1, m1, y1, c1, t1⟩ := hc i hi 1 _ rfl
    obtain ⟨s, hs, _⟩ := DataW.trod_string (t := 9) Try.underlying9 t0
    obtain ⟨z, hz, _⟩ := DataW.trod_int (t := 2) Try.underlying2 t1
    obtain rfl : v0 = .string s := by simpa using hs
    obtain rfl : v1 = .int .i64 z := by simpa using hz
    exact ⟨strAt_of c0, intAt_of (by rw [Nat.add_assoc]; exact c1)⟩
  · exact ⟨fun _ => ByteArray.empty, fun _ => 0, fun h => absurd h hn⟩

set_option maxRecDepth 100000 in
theorem fnTax_lifted (os : Os) (started : os.Started) (H : Type) (enc : TypeId × Value → H) :
    ReturnsInHanded {} Try.checked os 6 .any (Rows.fnTaxRateMatchesModelSpec.pre6 enc Try.prog Try.f6 Rows.fnTaxRateMatchesModelRow.domain false) (Rows.fnTaxRateMatchesModelSpec.post enc Try.prog Try.f6 false true false false) := by
  refine returnsInHanded_of_change (C := Try.checked) own started (by kernel_rfl) Try.func6
    (ChangeSpec.witness6 (enc := enc) (C := Try.checked) false ⟨#[], #[.slice none 0 0, .string ⟨#[]⟩], []⟩ 8 (by kernel_rfl) (by kernel_rfl) (by kernel_rfl) (by kernel_rfl)) ?_
  intro W base args ds gs before hval0 hW hcnd _
  have hval : ∀ (j : Nat) t v, Try.f6.params[j]? = some t → args[j]? = some v → Value.okWide Try.prog W .any base t v := hval0
  have hW' := hW
  obtain ⟨p, q, hA0, hV, rfl, hfz, hnd⟩ := hW
  have hA : DataW.TrodAll enc Try.prog W 0 (fun _ => true) true Try.f6.params.toList args.toList ds p := hA0
  rw [Try.params6] at hA hval
  obtain ⟨v0, vs0, d0, ds0, p0, q0, hargs, rfl, rfl, h0, r0⟩ := trodAll_cons hA
  obtain ⟨v1, vs1, d1, ds1, p1, q1, rfl, rfl, rfl, h1, r1⟩ := trodAll_cons r0
  obtain ⟨rfl, rfl, rfl⟩ := trodAll_nil r1
  obtain rfl : args = #[v0, v1] := by cases args; simp_all
  obtain ⟨rfl, rfl⟩ := trodVars_none hV
  have lt0 : ∀ x ∈ p0, x.block < W.heap.size := by obtain ⟨m, hm⟩ := h0; exact DataW.trod_lt m _ _ _ hm
  have lt1 : ∀ x ∈ p1, x.block < W.heap.size := by obtain ⟨m, hm⟩ := h1; exact DataW.trod_lt m _ _ _ hm
  obtain ⟨a0, n0, c0, rfl⟩ := okWide_slice Try.underlying39 (hval 0 39 v0 rfl rfl)
  obtain ⟨cc, rb, hrows⟩ := open39 h0
  obtain ⟨s1, rfl⟩ := okWide_string Try.underlying9 (hval 1 9 v1 rfl rfl)
  clear hA0 hval0
  refine (walkTax a0 n0 c0 s1 cc rb W hrows).mono fun e W' ⟨he, bel⟩ => ?_
  subst he
  exact ⟨_, rfl, _, _, _, [], _, [], hW', trodAll_mk1 (shut_bool Try.underlying4 _),
    (cons_mk (Below.trod laidOut (by kernel_rfl) (of_decide_eq_true (by kernel_rfl)) h0 bel lt0)
      (cons_mk (Below.trod laidOut (by kernel_rfl) (of_decide_eq_true (by kernel_rfl)) h1 bel lt1) trodAll_mk0)), rfl, bel.frame _, fun h => by cases h⟩

theorem fnTax_holds : Rows.FnTaxRateMatchesModelSaid :=
  OpenClaim.holds_of_wide 6 Try.f6 rfl rfl rfl rfl rfl rfl rfl ⟨rfl, rfl, rfl, rfl, rfl⟩ rfl rfl rfl rfl rfl (by kernel_rfl) Try.func6 (by kernel_rfl)
    (of_decide_eq_true (by kernel_rfl)) (by unfold Func.isWrapper; first | (rw [if_pos (by decide +kernel)]; kernel_rfl) | (rw [if_neg (by decide +kernel)]; exact ⟨rfl, rfl⟩))
    (fun os started H enc _ => fnTax_lifted os started H enc)
end Go.Proofs.Qxb6600975a
