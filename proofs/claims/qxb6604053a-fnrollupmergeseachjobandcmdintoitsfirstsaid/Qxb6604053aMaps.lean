import Derived.Test.Qxb6604053aKit
import Derived.Maps.OwnSet
import Derived.DeepKeys4
namespace Go.Proofs.Qxb6604053a
open Go.RowKit Go.Maps

theorem laidOut : laidOutB Try.prog = true := by kernel_rfl
theorem law47 : Keyed Try.prog 47 := Keyed.of_law (deep_law_laid laidOut (m := 3) (by omega) (of_decide_eq_true (by kernel_rfl)) (by kernel_rfl) (by kernel_rfl))
theorem zero3 (w : World) : (zeroValue 3).run Try.prog w = .ok (.int .i64 0) w := by kernel_rfl
/-- A key: a job and a command. -/
structure Key where
  job : Int
  cmd : ByteArray
theorem Key.ext' {k k' : Key} (h : k.job = k'.job) (h' : k.cmd = k'.cmd) : k = k' := by
  obtain ⟨j, c⟩ := k
  obtain ⟨j', c'⟩ := k'
  cases h; cases h'; rfl
def Key.ok (k : Key) : Prop := 0 ≤ k.job ∧ k.job ≤ 18446744073709551615 ∧ k.cmd.size ≤ maxLen
def Key.val (k : Key) : Value := .agg #[.int .u64 k.job, .string k.cmd]
def Key.lit (k : Key) : Lit := .string (keyBytes [.int .u64 k.job, .string k.cmd.data.toList])
theorem cells47 : Try.prog.cellsOf 47 = 2 := by kernel_rfl
theorem cells29 : Try.prog.cellsOf 29 = 1 := by kernel_rfl
theorem cells9 : Try.prog.cellsOf 9 = 1 := by kernel_rfl
theorem keyType47 : Try.prog.keyType 47 = true := by kernel_rfl
theorem typesS : ∃ m, Try.prog.types.size = m + 1 := Nat.exists_eq_succ_of_ne_zero (bne_iff_ne.1 (show (Try.prog.types.size != 0) = true by kernel_rfl))
theorem Key.of {k : Key} (h : k.ok) : keyOf Try.prog 47 k.val = some k.lit := by
  obtain ⟨h1, h2, h3⟩ := h
  have hw : (Lit.int .u64 k.job).wf = true := WalkArith.wf_u64 (by omega)
  obtain ⟨m, hm⟩ := typesS
  unfold keyOf Key.val
  simp only [Try.underlying47]
  rw [if_pos (by simp [keyType47, Value.formed, Try.underlying47, cells47]), hm]
  unfold Program.keyLits
  simp only [Try.underlying47, Value.cells]
  rw [if_pos (by rw [cells47]; exact ⟨rfl, by simp⟩)]
  simp [Program.keyLits, Try.underlying29, Try.underlying9, cells29, cells9, hw, h3, Key.lit]
theorem Key.inj {k k' : Key} (h : k.ok) (h' : k'.ok) (e : k.lit = k'.lit) : k = k' := by
  have := law47.inj (Key.of h) (by rw [e]; exact Key.of h')
  obtain ⟨j, c⟩ := k
  obtain ⟨j', c'⟩ := k'
  simp [Key.val] at this
  rw [this.1, this.2]
/-- Block B is a map from keys to places, of at most cnt entries: at a key it holds what M says. -/
def MapIs (W : World) (B cnt : Nat) (M : Key → Option Nat) : Prop :=
  ∃ D : DataW Unit, W.ownsMap Try.prog 47 (plainElem Try.prog 3) B cnt D ∧ ∀ k : Key, k.ok → Maps.has D k.lit = (M k).isSome ∧ ∀ i, M k = some i → D.atKey k.lit (.lit (.int .i64 0)) = .lit (.int .i64 (i : Int))
def upd (M : Key → Option Nat) (k : Key) (i : Nat) : Key → Option Nat := fun s => if s.job = k.job ∧ s.cmd = k.cmd then some i else M s
theorem upd_same (M : Key → Option Nat) (k : Key) (i : Nat) : upd M k i k = some i := if_pos ⟨rfl, rfl⟩
theorem upd_other {M : Key → Option Nat} {k s : Key} {i : Nat} (h : s ≠ k) : upd M k i s = M s := if_neg fun e => h (Key.ext' e.1 e.2)

theorem MapIs.lt {W : World} {B cnt : Nat} {M : Key → Option Nat} (h : MapIs W B cnt M) : B < W.heap.size := by
  obtain ⟨D, ho, _⟩ := h; exact ho.lt
theorem MapIs.kept {W W' : World} {B cnt : Nat} {M : Key → Option Nat} {row : Option Nat} (h : MapIs W B cnt M) (hg : W.grownBy W' row) (hne : some B ≠ row) : MapIs W' B cnt M := by
  obtain ⟨D, ho, hd⟩ := h; exact ⟨D, ho.kept hg hne, hd⟩
theorem MapIs.alloc {W : World} {B cnt : Nat} {M : Key → Option Nat} (h : MapIs W B cnt M) (o : Obj) : MapIs (W.alloc o) B cnt M := h.kept (World.grownBy_alloc W o none) (by simp)
theorem MapIs.mono {W : World} {B cnt cnt' : Nat} {M : Key → Option Nat} (h : MapIs W B cnt M) (hc : cnt ≤ cnt') : MapIs W B cnt' M := by
  obtain ⟨D, ho, hd⟩ := h; exact ⟨D, ho.mono hc, hd⟩
theorem mapIs_made (w : World) : MapIs (w.alloc (.map #[] 0)) w.heap.size 0 (fun _ => none) :=
  ⟨.map [], World.ownsMap_made w _ _ _, fun s _ => ⟨rfl, fun i h => by cases h⟩⟩

/-- 'v, ok := m[k]'. -/
theorem wpList_look {ops : Array Oper} {rest : List Oper} {o : Oper} {a : Act} {w : World} {Q : Exit → Act → World → Prop} (hg : o.guard = none) (m x : Operand) (hop : o.op = Op.lookup 45 m x true)
    (B cnt : Nat) (M : Key → Option Nat) (hm : a.eval m = .map (some B)) (hown : MapIs w B cnt M) (s : Key) (hx : a.eval x = s.val) (hs : s.ok)
    (hK : ∀ c : Int, (∀ i, M s = some i → c = i) → wpList Try.prog ops Q rest (a.put o.dst (.tuple #[.int .i64 c, .bool (M s).isSome])) w) :
    wpList Try.prog ops Q (o :: rest) a w := by
  obtain ⟨D, ho, hd⟩ := hown
  refine wpList_lookup_own_ok_int w hg m x 45 hop 47 3 .i64 law47 Try.underlying45 Try.underlying3 (zero3 _) B cnt D hm ho s.val s.lit hx (Key.of hs) ?_
  intro c hat _
  obtain ⟨h1, h2⟩ := hd s hs
  rw [h1]
  refine hK c fun i hi => ?_
  have := h2 i hi
  rw [hat] at this
  injection this with this
  injection this
theorem wpList_look_some {ops : Array Oper} {rest : List Oper} {o : Oper} {a : Act} {w : World} {Q : Exit → Act → World → Prop} (hg : o.guard = none) (m x : Operand) (hop : o.op = Op.lookup 45 m x true)
    (B cnt : Nat) (M : Key → Option Nat) (hm : a.eval m = .map (some B)) (hown : MapIs w B cnt M) (s : Key) (hx : a.eval x = s.val) (hs : s.ok) (i : Nat) (hi : M s = some i)
    (hK : wpList Try.prog ops Q rest (a.put o.dst (.tuple #[.int .i64 (i : Int), .bool true])) w) :
    wpList Try.prog ops Q (o :: rest) a w := by
  refine wpList_look hg m x hop B cnt M hm hown s hx hs fun c hc => ?_
  rw [hc i hi, hi]; exact hK
theorem wpList_look_none {ops : Array Oper} {rest : List Oper} {o : Oper} {a : Act} {w : World} {Q : Exit → Act → World → Prop} (hg : o.guard = none) (m x : Operand) (hop : o.op = Op.lookup 45 m x true)
    (B cnt : Nat) (M : Key → Option Nat) (hm : a.eval m = .map (some B)) (hown : MapIs w B cnt M) (s : Key) (hx : a.eval x = s.val) (hs : s.ok) (hi : M s = none)
    (hK : ∀ c : Int, wpList Try.prog ops Q rest (a.put o.dst (.tuple #[.int .i64 c, .bool false])) w) :
    wpList Try.prog ops Q (o :: rest) a w := by
  refine wpList_look hg m x hop B cnt M hm hown s hx hs fun c hc => ?_
  rw [hi]; exact hK c

/-- 'm[k] = v'. -/
theorem wpList_upd {ops : Array Oper} {rest : List Oper} {o : Oper} {a : Act} {w : World} {Q : Exit → Act → World → Prop} (hg : o.guard = none) (m x v : Operand) (hop : o.op = Op.mapUpdate 45 m x v)
    (B cnt : Nat) (M : Key → Option Nat) (hm : a.eval m = .map (some B)) (hown : MapIs w B cnt M) (hc : cnt < maxLen) (s : Key) (hx : a.eval x = s.val) (hs : s.ok)
    (i : Nat) (hv : a.eval v = .int .i64 (i : Int)) (hi : i < 1000000000)
    (hK : ∀ w', MapIs w' B (cnt + 1) (upd M s i) → w.grownBy w' (some B) → wpList Try.prog ops Q rest (a.put o.dst undef) w') :
    wpList Try.prog ops Q (o :: rest) a w := by
  obtain ⟨D, ho, hd⟩ := hown
  refine wpList_mapUpdate_own w hg m x v 45 hop 47 3 law47 Try.underlying45 (plainElem Try.prog 3) B cnt D hm ho hc s.val (.int .i64 (i : Int)) s.lit hx hv (Key.of hs) _ [] (plainElem_int Try.underlying3 (WalkArith.wf_i64 (by omega))) ?_
  intro w' ho' hgr
  refine hK w' ⟨_, ho', fun t ht => ?_⟩ hgr
  have hkl : WideAt.IsKeyLit s.lit := trivial
  by_cases e : t = s
  · subst e
    rw [upd_same]
    exact ⟨has_put_same ho.isMap hkl _, fun j hj => by cases hj; exact atKey_put_same ho.isMap hkl _ _⟩
  · have hne : t.lit ≠ s.lit := fun h => e (Key.inj ht hs h)
    rw [upd_other e, has_put_other hne, atKey_put_other hne]
    exact hd t ht
end Go.Proofs.Qxb6604053a
