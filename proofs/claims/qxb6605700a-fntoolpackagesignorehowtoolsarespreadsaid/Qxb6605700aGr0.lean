import Derived.Test.Qxb6605700aPkgs
import Derived.Lib.ReflectliteSwap
import Derived.Great.Ranges
namespace Go.Proofs.Qxb6605700a
open Go.ChangeShapes Go.WideShapes Go.ChangeAt Go.RowKit
set_option linter.unusedVariables false

/-! ### laws for the walk that leave the world a letter -/
theorem wpList_store_abs {ops : Array Oper} {rest : List Oper} {o : Oper} {a : Act} {w : World} {Q : Exit → Act → World → Prop} (hgd : o.guard = none) (ty : TypeId) (x y : Operand) (ho : o.op = .store ty x y)
    (ie : TypeInfo) (hi : Try.prog.info? ty = some ie) (hs : ie.size = 1) (g off : Nat) (hx : a.eval x = .pointer (some ⟨g, off, none⟩)) (v : Value) (hy : a.eval y = v) (h1 : v.oneCell' = true)
    (old : Value) (hc : w.cell? ⟨g, off, none⟩ = some old) (hf : w.frozen? ⟨g, off, none⟩ = false)
    (h : ∀ w1, Hid (w1 = w.setCell ⟨g, off, none⟩ v) → wpList Try.prog ops Q rest (a.put o.dst undef) w1) : wpList Try.prog ops Q (o :: rest) a w :=
  wpList_plain hgd fun _ hK => by
    unfold Oper.wp execOp
    simp only [ho, hx, hy, Instr.storeAt, Instr.sureAddr, Sem.run_bind, Sem.run_pure, Result.andThen_ok, Lib.rl_storeVar_one (P := Try.prog) ty ie hi hs ⟨g, off, none⟩ v old h1 w hc hf]
    exact hK _ _ (h _ rfl)

theorem wpList_box_abs {ops : Array Oper} {rest : List Oper} {o : Oper} {a : Act} {w : World} {Q : Exit → Act → World → Prop} (hg : o.guard = none) (t : TypeId) (x : Operand) (ho : o.op = .box t x)
    (cells : Array Value) (hx : a.eval x = .agg cells)
    (h : ∀ w1 g, g = w.heap.size → Hid (w1 = w.alloc (.cells cells t)) → wpList Try.prog ops Q rest (a.put o.dst (.pointer (some ⟨g, 0, none⟩))) w1) : wpList Try.prog ops Q (o :: rest) a w :=
  Great.wpList_boxTo hg t x ho _ rfl _ rfl cells (by rw [hx]; rfl) (h _ _ rfl rfl)

/-! ### map[string]int -/
def MapOf (w : World) (m nn : Nat) (F : ByteArray → Nat) : Prop :=
  ∃ D : DataW Unit, w.ownsMap Try.prog 9 (plainElem Try.prog 3) m nn D ∧ ∀ p : ByteArray, D.atKey (.string p.data.toList) (.lit (.int .i64 0)) = .lit (.int .i64 (F p : Nat))
theorem MapOf.lt {w : World} {m nn : Nat} {F : ByteArray → Nat} (h : MapOf w m nn F) : m < w.heap.size := by
  obtain ⟨D, h, _⟩ := h
  exact h.lt
theorem MapOf.kept {w w' : World} {m nn : Nat} {F : ByteArray → Nat} {row : Option Nat} (h : MapOf w m nn F) (hg : w.grownBy w' row) (hne : some m ≠ row) : MapOf w' m nn F := by
  obtain ⟨D, h, h2⟩ := h
  exact ⟨D, h.kept hg hne, h2⟩
theorem MapOf.later {w w' : World} {m nn : Nat} {F : ByteArray → Nat} (h : MapOf w m nn F) (hb : Below w.heap.size w w') : MapOf w' m nn F := h.kept (below_grown hb) (by simp)
theorem MapOf.made (w : World) : MapOf (w.alloc (.map #[] 0)) w.heap.size 0 (fun _ => 0) := ⟨.map [], w.ownsMap_made _ _ _, fun p => rfl⟩
theorem MapOf.isMap {w : World} {m nn : Nat} {F : ByteArray → Nat} (h : MapOf w m nn F) : ∃ es c, w.heap[m]? = some (.map es c) := by
  obtain ⟨D, ⟨es, c, hb, _⟩, _⟩ := h
  exact ⟨es, c, hb⟩
theorem MapOf.ne {w : World} {m nn : Nat} {F : ByteArray → Nat} (h : MapOf w m nn F) {a : Addr} {v : Value} (hc : w.cell? a = some v) : some a.block ≠ some m := by
  obtain ⟨es, c, hb⟩ := h.isMap
  intro e
  simp at e
  simp [World.cell?, e, hb] at hc

theorem data_inj {p q : ByteArray} (h : p.data.toList = q.data.toList) : p = q := by
  obtain ⟨⟨p⟩⟩ := p
  obtain ⟨⟨q⟩⟩ := q
  simp at h
  simp [h]

theorem wpList_mapUpdate_S {w : World} {ops : Array Oper} {rest : List Oper} {o : Oper} {a : Act} {Q : Exit → Act → World → Prop}
    (hg : o.guard = none) (m x v : Operand) (hop : o.op = Op.mapUpdate 53 m x v) (b nn : Nat) (F : ByteArray → Nat)
    (hm : a.eval m = .map (some b)) (h : MapOf w b nn F) (hn : nn ≤ 1048576) (p : ByteArray) (hp : p.size ≤ 9223372036854775807) (hx : a.eval x = .string p) (z : Nat) (hz : z ≤ 2097152) (hv : a.eval v = .int .i64 z)
    (hK : ∀ w', MapOf w' b (nn + 1) (fun q => if q = p then z else F q) → w.grownBy w' (some b) → wpList Try.prog ops Q rest (a.put o.dst undef) w') :
    wpList Try.prog ops Q (o :: rest) a w := by
  obtain ⟨D, hown, hat⟩ := h
  refine wpList_mapUpdate_own w hg m x v 53 hop 9 3 (Maps.string_keyed Try.underlying9) Try.underlying53 (plainElem Try.prog 3) b nn D hm hown (by unfold maxLen; omega) (.string p) (.int .i64 z) (.string p.data.toList) hx hv (WideMaps.keyOf_string_mk Try.underlying9 (by unfold maxLen; omega)) (.lit (.int .i64 z)) [] (plainElem_int Try.underlying3 (by simp [Lit.wf, IntKind.min, IntKind.max, IntKind.bits, IntKind.signed]; omega)) ?_
  intro w' h1 h2
  refine hK w' ⟨_, h1, fun q => ?_⟩ h2
  have hD : Maps.IsMap D := by
    obtain ⟨es, c, _, _, _, rfl⟩ := hown
    exact ⟨_, rfl⟩
  by_cases e : q = p
  · subst e
    simp only [if_true]
    exact Maps.atKey_put_same (k := .string q.data.toList) hD trivial _ _
  · simp only [if_neg e]
    rw [Maps.atKey_put_other (fun h => e (data_inj (by simpa using h)))]
    exact hat q

theorem wpList_lookup_S {w : World} {ops : Array Oper} {rest : List Oper} {o : Oper} {a : Act} {Q : Exit → Act → World → Prop}
    (hg : o.guard = none) (m x : Operand) (hop : o.op = Op.lookup 53 m x false) (b nn : Nat) (F : ByteArray → Nat)
    (hm : a.eval m = .map (some b)) (h : MapOf w b nn F) (p : ByteArray) (hp : p.size ≤ 9223372036854775807) (hx : a.eval x = .string p)
    (hK : wpList Try.prog ops Q rest (a.put o.dst (.int .i64 (F p : Nat))) w) :
    wpList Try.prog ops Q (o :: rest) a w := by
  obtain ⟨D, hown, hat⟩ := h
  refine wpList_lookup_own_int w hg m x 53 hop 9 3 .i64 (Maps.string_keyed Try.underlying9) Try.underlying53 Try.underlying3 (Try.zeroValue3 _) b nn D hm hown (.string p) (.string p.data.toList) hx (WideMaps.keyOf_string_mk Try.underlying9 (by unfold maxLen; omega)) ?_
  intro c hc _
  rw [hat p] at hc
  simp at hc
  rw [← hc]
  exact hK

end Go.Proofs.Qxb6605700a
