import Derived.Test.Qxb6605700aSort
namespace Go.Proofs.Qxb6605700a
open Go.ChangeShapes Go.WideShapes Go.ChangeAt Go.RowKit
set_option linter.unusedVariables false

theorem info58 : (Try.prog.info? 58).map (fun i => i.size) = some 5 := by kernel_rfl
theorem eql_tools (w : World) {a b : Nat} (hne : a ≠ b) {t t' m m' : Nat} (ha : Blk w a t m) (hb : Blk w b t' m') (dn : Nat) :
    (binOp .eql 56 (.pointer (some ⟨a, 0, none⟩)) (.pointer (some ⟨b, 0, none⟩))).run Try.prog (w.drewN dn) = .ok (.bool false) (w.drewN dn) := by
  obtain ⟨i, hi, hs⟩ : ∃ i, Try.prog.info? 58 = some i ∧ i.size = 5 := by
    have h := info58
    cases hx : Try.prog.info? 58 with
    | none => simp [hx] at h
    | some i => simp [hx] at h; exact ⟨i, rfl, h⟩
  obtain ⟨ca, ha, _⟩ := ha
  obtain ⟨cb, hb, _⟩ := hb
  exact run_eql_ptr_other (w.drewN dn) Try.underlying56 hi (by omega) (fun e => hne (congrArg Addr.block e)) ha hb

set_option maxRecDepth 100000 in
set_option maxHeartbeats 4000000 in
theorem compact (g : Nat) (ao : Option Addr) (n c : Nat) (ts : List Tl) (w : World) (hlen : ts.length = n) (hrow : Row Tl.enc w ao ts) (hok : ∀ t ∈ ts, t.Ok w g) (hnd : (ts.map Tl.b).Nodup) (hn : n ≤ 1048576) :
    Calls Try.prog 27 #[.slice ao n c] w fun e w' => e = .returned (.slice ao n c) ∧ ∃ q, w' = w.drewN q := by
  have HR := hide hrow
  have HL := hide hlen
  have HK := hide hok
  have HN := hide hnd
  clear hrow hlen hok hnd
  by_cases h2 : n < 2
  · have h2' : (n : Int) < 2 := by omega
    go_enter Try.func27, Try.ntmps27
    go_wp2
    go_ret
    exact ⟨rfl, 0, rfl⟩
  · have h2' : decide ((n : Int) < 2) = false := by simp; omega
    go_enter Try.func27, Try.ntmps27
    go_wp2
    go_loopw [3] (fun i wr => ∃ k dn : Nat, k + 1 ≤ n ∧ i = .int .i64 (k + 1 : Nat) ∧ wr = w.drewN dn) (fun i _ => n - (intOf i).toNat)
    case atStart => exact ⟨0, 0, by omega, rfl, rfl⟩
    case round =>
      obtain ⟨k, dn, hk, rfl, rfl⟩ := hrel
      by_cases hlt : k + 1 < n
      · obtain ⟨x, hx⟩ := get_of_lt (xs := ts) (j := k + 1) (by have := HL.out; omega)
        obtain ⟨y, hy⟩ := get_of_lt (xs := ts) (j := k) (by have := HL.out; omega)
        obtain ⟨b, off, rfl, hcx⟩ := HR.out.at hx
        obtain ⟨b', off', e, hcy⟩ := HR.out.at hy
        simp only [Option.some.injEq, Addr.mk.injEq, and_true] at e
        obtain ⟨rfl, rfl⟩ := e
        have hox := HK.out x (List.mem_of_getElem? hx)
        have hoy := HK.out y (List.mem_of_getElem? hy)
        have hne : x.b ≠ y.b := by
          intro e
          have hl := HL.out
          have h1 := (List.pairwise_iff_getElem.1 HN.out) k (k + 1) (by simp; omega) (by simp; omega) (by omega)
          rw [List.getElem_map, List.getElem_map] at h1
          have ex : ts[k + 1] = x := by rw [List.getElem?_eq_getElem (by omega)] at hx; simpa using hx
          have ey : ts[k] = y := by rw [List.getElem?_eq_getElem (by omega)] at hy; simpa using hy
          rw [ex, ey] at h1
          exact h1 e.symm
        have heq := eql_tools w hne hox.blk hoy.blk
        unfold Tl.enc at hcx hcy
        have hlt' : ((k + 1 : Nat) : Int) < (n : Int) := by omega
        have hlt'' : (k : Int) < (n : Int) := by omega
        clear hx hy hox hoy hne
        go_wp2
        go_quiet (fail)
        go_wp2
        go_roundw
        case rel => exact ⟨k + 1, _, by omega, by go_num, rfl⟩
        case measure => simp [intOf]; omega
      · obtain rfl : k + 1 = n := by omega
        go_wp2
        go_ret
        exact ⟨rfl, _, rfl⟩

/-- append of a slice's elements, to a row of the call's own. -/
theorem wpList_append_OwnRow {α : Type} (enc : α → Value) {w : World} {ops : Array Oper} {rest : List Oper} {o : Oper} {a : Act} {Q : Exit → Act → World → Prop} (hgd : o.guard = none) (s x : Operand) (t : TypeId)
    (ho : o.op = .call { callee := .builtin .append, args := #[s, x], argTypes := #[t, t] })
    (B e : Nat) (i : TypeInfo) (z : Value) (bytes : Nat) (ht : Try.prog.underlying t = some (.slice e)) (hi : Try.prog.info? e = some i) (hz : i.zero = some z) (hsize : i.size = 1) (hby : i.bytes = bytes) (hzs : z.cells.size = 1) (hb : bytes ≤ 100)
    (v : Value) (xs : List α) (hs : a.eval s = v) (hown : Own enc w B e v xs) (hone : ∀ y, (enc y).oneCell' = true) (ao : Option Addr) (c : Nat) (ys : List α) (hx : a.eval x = .slice ao ys.length c) (hrow : Row enc w ao ys) (hnil : ao = none → ys.length = 0 ∧ c = 0)
    (hlen : xs.length + ys.length ≤ 10000000) (hbase : B ≤ w.heap.size)
    (h : ∀ v' w', Own enc w' B e v' (xs ++ ys) → w.grownBy w' v.ownBlock → wpList Try.prog ops Q rest (a.put o.dst v') w') :
    wpList Try.prog ops Q (o :: rest) a w := by
  cases ao with
  | none =>
    obtain ⟨h1, rfl⟩ := hnil rfl
    have hy : ys = [] := List.eq_nil_of_length_eq_zero h1
    subst hy
    refine wpList_append_own_none hgd s x t ho B e i 1 ht hi v xs.length (xs.map enc) hs hown hx ?_
    exact h v w (by rw [List.append_nil]; exact hown) ⟨rfl, rfl, rfl, Nat.le_refl _, fun _ _ _ => rfl⟩
  | some ad =>
    refine wpList_append_own_at w hgd s x t ho B e i z 1 bytes ht hi hz hsize hby hzs (by decide) v xs.length (xs.map enc) hs hown ad ys.length c (ys.map enc) hx (by simp) ?_ (by simp [hone]) (by unfold maxLen; omega) ?_ hbase ?_
    · intro j u hj
      rcases hrow with rfl | ⟨b, off, e, hc⟩
      · simp at hj
      · simp at e
        subst e
        simp at hj
        obtain ⟨y, hy, rfl⟩ := hj
        have hcj := hc j y hy
        simp only [Addr.add]
        by_cases hj0 : j = 0
        · subst hj0; simpa using hcj
        · simpa [hj0] using hcj
    · have : (xs.length + ys.length) * bytes ≤ 10000000 * 100 := Nat.mul_le_mul (by omega) hb
      omega
    · intro v' w' h1 h2 _ h4
      refine h v' w' ?_ h2
      unfold Own
      simpa using h1

/-! ### files, (*Graph).Tools -/
structure Fl where
  b : Nat
  a : Option Addr
  c : Nat
  ts : List Tl
def Fl.enc (f : Fl) : Value := .pointer (some ⟨f.b, 0, none⟩)
structure Fl.Ok (f : Fl) (w : World) (g : Nat) : Prop where
  cell : w.cell? ⟨f.b, 9, none⟩ = some (.slice f.a f.ts.length f.c)
  row : Row Tl.enc w f.a f.ts
  nil : f.a = none → f.ts.length = 0 ∧ f.c = 0
  ok : ∀ t ∈ f.ts, t.Ok w g
theorem Fl.Ok.later {f : Fl} {w w' : World} {g : Nat} (h : f.Ok w g) (hb : Below w.heap.size w w') : f.Ok w' g :=
  ⟨by rw [hb.cell (p := ⟨f.b, 9, none⟩) (lt_of_cell h.cell)]; exact h.cell, h.row.later hb, h.nil, fun t ht => (h.ok t ht).later hb⟩
def allTools (fs : List Fl) : List Tl := fs.flatMap (·.ts)
theorem allTools_take {fs : List Fl} {k : Nat} {f : Fl} (h : fs[k]? = some f) : allTools (fs.take (k + 1)) = allTools (fs.take k) ++ f.ts := by
  unfold allTools
  rw [List.take_add_one, h]
  simp
theorem allTools_take_le (fs : List Fl) (k : Nat) : (allTools (fs.take k)).length ≤ (allTools fs).length := by
  have : allTools fs = allTools (fs.take k) ++ allTools (fs.drop k) := by
    unfold allTools
    rw [← List.flatMap_append, List.take_append_drop]
  rw [this, List.length_append]
  omega

theorem info56 : (Try.prog.info? 56).map (fun i => (i.zero, i.size, i.bytes)) = some (some (.pointer none), 1, 8) := by kernel_rfl

set_option maxRecDepth 100000 in
set_option maxHeartbeats 4000000 in
theorem tools (g gG nf cf : Nat) (fa : Option Addr) (fs : List Fl) (w : World) (hlen : fs.length = nf) (hG : w.cell? ⟨gG, 1, none⟩ = some (.slice fa nf cf)) (hrow : Row Fl.enc w fa fs) (hok : ∀ f ∈ fs, f.Ok w g) (hnd : ((allTools fs).map Tl.b).Nodup) (hall : (allTools fs).length ≤ 1048576) (hn : nf ≤ 1048576) :
    Calls Try.prog 22 #[.pointer (some ⟨gG, 0, none⟩)] w fun e w' => ∃ ao c, ∃ ts : List Tl, e = .returned (.slice ao ts.length c) ∧ ts.Perm (allTools fs) ∧ Below w.heap.size w w' ∧ Row Tl.enc w' ao ts ∧ ∀ t ∈ ts, t.Ok w' g := by
  have HR := hide hrow
  have HL := hide hlen
  have HK := hide hok
  have HN := hide hnd
  have HA := hide hall
  clear hrow hlen hok hnd hall
  obtain ⟨i0, hi, hz0, hz1, hz2⟩ := info_parts info56
  go_enter Try.func22, Try.ntmps22
  go_wp2
  go_loopw [3, 11] (fun v i wr => ∃ k : Nat, k ≤ nf ∧ i = .int .i64 k ∧ Below w.heap.size w wr ∧ Own Tl.enc wr w.heap.size 56 v (allTools (fs.take k))) (fun _ i _ => nf - (intOf i).toNat)
  case atStart => exact ⟨0, Nat.zero_le _, rfl, Below.refl _ _, Own.nil _ _ _ _⟩
  case round =>
    obtain ⟨k, hk, rfl, hB, hown⟩ := hrel
    by_cases hkn : k < nf
    · obtain ⟨f, hf⟩ := get_of_lt (xs := fs) (j := k) (by have := HL.out; omega)
      obtain ⟨b, off, rfl, hcell⟩ := HR.out.at hf
      have hcw := (hB.cell (p := ⟨b, off + k, none⟩) (lt_of_cell hcell)).trans hcell
      have hfo := (HK.out f (List.mem_of_getElem? hf)).later hB
      have hst := allTools_take hf
      have hle : (allTools (fs.take (k + 1))).length ≤ 1048576 := Nat.le_trans (allTools_take_le _ _) HA.out
      rw [hst, List.length_append] at hle
      have hfc := hfo.cell
      have HFO := hide hfo
      have HST := hide hst
      have HOWN := hide hown
      have HB := hide hB
      unfold Fl.enc at hcw
      have hkn' : (k : Int) < (nf : Int) := by omega
      clear hcell hf hst hfo hown hB
      go_wp2_with (at_builtin; refine wpList_append_OwnRow Tl.enc rfl _ _ 30 rfl w.heap.size 56 i0 (.pointer none) 8 Try.underlying30 hi hz0 hz1 hz2 rfl (by omega) _ _ rfl HOWN.out (fun _ => rfl) f.a f.c f.ts rfl HFO.out.row HFO.out.nil (by omega) HB.out.size ?_; intro v' w1 hown1 hgrow)
      go_roundw
      case rel =>
        refine ⟨k + 1, by omega, by go_num, HB.out.grown hgrow HB.out.size (Own.from HOWN.out), ?_⟩
        rw [HST.out]
        exact hown1
      case measure => simp [intOf]; omega
    · obtain rfl : k = nf := by omega
      have e : fs.take k = fs := List.take_of_length_le (by have := HL.out; omega)
      rw [e] at hown
      have hall : ∀ t ∈ allTools fs, t.Ok wr g := by
        intro t ht
        unfold allTools at ht
        rw [List.mem_flatMap] at ht
        obtain ⟨f, hf, ht⟩ := ht
        exact ((HK.out f hf).later hB).ok t ht
      have hsort := sortFunc g w.heap.size _ _ wr hall hown HA.out
      have HS := hide hsort
      have HB := hide hB
      clear hsort hown hB
      go_wp2_with fail
      refine HS.out.mono ?_
      rintro e w2 ⟨rfl, ts', hperm, hB2, ⟨ao, c, rfl, hrow'⟩, hok'⟩
      have hcp := compact g ao ts'.length c ts' w2 rfl hrow' hok' (by exact ((hperm.map Tl.b).nodup_iff).2 HN.out) (by rw [hperm.length_eq]; exact HA.out)
      have HC := hide hcp
      have HP := hide hperm
      have HRO := hide hrow'
      have HOK := hide hok'
      have HB2 := hide (HB.out.trans hB2)
      clear hcp hperm hrow' hok' hB2 HS
      go_wp2_with fail
      refine HC.out.mono ?_
      rintro e w3 ⟨rfl, q, rfl⟩
      go_wp2
      go_ret
      have hD : Below w2.heap.size w2 (w2.drewN q) := below_drewN (Below.refl _ _) _
      exact ⟨ao, c, ts', rfl, HP.out, below_drewN HB2.out _, HRO.out.later hD, fun t ht => (HOK.out t ht).later hD⟩

end Go.Proofs.Qxb6605700a
