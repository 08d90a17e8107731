import Derived.Test.Qxb6605700aGr2
import Derived.Deep.RegionLaw
namespace Go.Proofs.Qxb6605700a
open Go.ChangeShapes Go.WideShapes Go.ChangeAt Go.RowKit
set_option linter.unusedVariables false

theorem wpList_store_blk {ops : Array Oper} {rest : List Oper} {o : Oper} {a : Act} {w : World} {Q : Exit → Act → World → Prop} (hgd : o.guard = none) (ty : TypeId) (x y : Operand) (ho : o.op = .store ty x y)
    (ie : TypeInfo) (hi : Try.prog.info? ty = some ie) (hs : ie.size = 1) (g off : Nat) (hx : a.eval x = .pointer (some ⟨g, off, none⟩)) (v : Value) (hy : a.eval y = v) (h1 : v.oneCell' = true)
    {t m : Nat} (hb : Blk w g t m) (hof : off < m)
    (h : ∀ w1, Hid (w1 = w.setCell ⟨g, off, none⟩ v) → wpList Try.prog ops Q rest (a.put o.dst undef) w1) : wpList Try.prog ops Q (o :: rest) a w := by
  obtain ⟨old, hc⟩ := hb.cell hof
  exact wpList_store_abs hgd ty x y ho ie hi hs g off hx v hy h1 old hc (hb.free _) h
theorem Ph.loUp {w wr : World} {n gP gT gM lo hi nn : Nat} {F : ByteArray → Nat} (h : Ph w n gP gT gM lo hi nn F wr) : Ph w n gP gT gM (lo + 1) hi nn F wr :=
  ⟨h.below, h.hP, h.hT, h.hM, h.pk, fun j h1 h2 => h.fil j (by omega) h2, h.pt, h.pts, h.map⟩

/-- The look-up, the number it finds named. -/
theorem wpList_lookup_N {w : World} {ops : Array Oper} {rest : List Oper} {o : Oper} {a : Act} {Q : Exit → Act → World → Prop}
    (hg : o.guard = none) (m x : Operand) (hop : o.op = Op.lookup 53 m x false) (b nn : Nat) (F : ByteArray → Nat)
    (hm : a.eval m = .map (some b)) (h : MapOf w b nn F) (p : ByteArray) (hp : p.size ≤ 9223372036854775807) (hx : a.eval x = .string p) (z : Nat) (hz : F p = z)
    (hK : wpList Try.prog ops Q rest (a.put o.dst (.int .i64 (z : Nat))) w) :
    wpList Try.prog ops Q (o :: rest) a w := wpList_lookup_S hg m x hop b nn F hm h p hp hx (by rw [hz]; exact hK)

theorem Own.one {α : Type} {enc : α → Value} {w : World} {B e : Nat} {v : Value} {xs : List α} (h : Own enc w B e v xs) : v.oneCell' = true := by
  obtain ⟨ao, c, rfl, _⟩ := h.slice
  rfl

/-- append of one element to a row of the call's own, as one step of a region that draws. -/
theorem step_append_Own {α : Type} (enc : α → Value) {w : World} {ops : Array Oper} {o : Oper} {a : Act} {K : Act → World → Prop} {Q : Exit → Act → World → Prop} {E : Prop} (hgd : o.guard = none) (s x : Operand) (t : TypeId)
    (ho : o.op = .call { callee := .builtin .append, args := #[s, x], argTypes := #[t, t] })
    (B e : Nat) (i : TypeInfo) (z : Value) (bytes : Nat) (ht : Try.prog.underlying t = some (.slice e)) (hi : Try.prog.info? e = some i) (hz : i.zero = some z) (hsize : i.size = 1) (hby : i.bytes = bytes) (hzs : z.cells.size = 1) (hb : bytes ≤ 100)
    (v : Value) (xs : List α) (hs : a.eval s = v) (hown : Own enc w B e v xs) (y : α) (hy : (enc y).oneCell' = true) (ad : Addr) (hx : a.eval x = .slice (some ad) 1 1) (hcell : w.cell? ad = some (enc y))
    (hlen : xs.length ≤ 10000000) (hbase : B ≤ w.heap.size)
    (h : ∀ v' w', Own enc w' B e v' (xs ++ [y]) → w.grownBy w' v.ownBlock → (v'.ownBlock = v.ownBlock ∨ v'.ownBlock = some w.heap.size) → K (a.put o.dst v') w') :
    if Region.wanted o (yielded ops a.tmps) = true then Oper.wp Try.prog o a w K Q else E := by
  have hw : Region.wanted o (yielded ops a.tmps) = true := by simp [Region.wanted, hgd]
  rw [if_pos hw]
  obtain ⟨v', w', hr, h2, h3, h4, h5⟩ := run_append_own_at (P := Try.prog) w B t o.type e i z 1 bytes ht hi hz hsize hby hzs (by decide) v xs.length (xs.map enc) hown ad 1 1 [enc y] rfl (by
    intro j u hj
    match j, hj with
    | 0, hj =>
      simp at hj
      subst hj
      simpa [Addr.add] using hcell) (by simp [hy]) (by unfold maxLen; omega) (by
    have : (xs.length + 1) * bytes ≤ 10000001 * 100 := Nat.mul_le_mul (by omega) hb
    omega) hbase
  unfold Oper.wp execOp
  simp only [ho, resolve, invoke, builtin, Sem.run_bind, Sem.run_pure, Result.andThen_ok, List.map_toArray, List.map_cons, List.map_nil, hs, hx, hr]
  exact h v' w' (by unfold Own; simpa using h2) h3 h5

/-! ### the lists -/
def pkgOf (F : ByteArray → Nat) (p : ByteArray) : Option Nat := if F p = 0 then none else some (F p - 1)
theorem pkgOf_zero {F : ByteArray → Nat} {p : ByteArray} (h : F p = 0) : pkgOf F p = none := by simp [pkgOf, h]
theorem pkgOf_succ {F : ByteArray → Nat} {p : ByteArray} {j : Nat} (h : F p = j + 1) : pkgOf F p = some j := by simp [pkgOf, h]

structure Pure (F : ByteArray → Nat) (rs : List SR) (k m : Nat) (fs : List FS) (cts allT : List Tl) : Prop where
  tools : allT = fs.flatMap FS.ts ++ cts
  paths : allT.map Tl.path = (rs.take k).flatMap SR.ss ++ (rowAt rs k).take m
  nd : (allT.map Tl.b).Nodup
  pkg : ∀ t ∈ allT, t.pkg = pkgOf F t.path
  len : fs.length = k
theorem Pure.start (F : ByteArray → Nat) (rs : List SR) : Pure F rs 0 0 [] [] [] := ⟨rfl, by simp, by simp, by simp, rfl⟩
theorem Pure.tool {F : ByteArray → Nat} {rs : List SR} {k m : Nat} {fs : List FS} {cts allT : List Tl} (h : Pure F rs k m fs cts allT) {t : Tl} (hs : (rowAt rs k)[m]? = some t.path) (hp : t.pkg = pkgOf F t.path) (hb : ∀ x ∈ allT, x.b ≠ t.b) : Pure F rs k (m + 1) fs (cts ++ [t]) (allT ++ [t]) := by
  refine ⟨by rw [h.tools, List.append_assoc], ?_, ?_, fun x hx => ?_, h.len⟩
  · rw [List.map_append, h.paths, List.take_add_one, hs, List.append_assoc]
    rfl
  · rw [List.map_append, List.nodup_append]
    refine ⟨h.nd, by simp, fun a ha b hb' => ?_⟩
    simp at hb'
    subst hb'
    obtain ⟨x, hx, rfl⟩ := List.mem_map.1 ha
    exact hb x hx
  · rw [List.mem_append] at hx
    rcases hx with hx | hx
    · exact h.pkg x hx
    · simp at hx; subst hx; exact hp
theorem Pure.row {F : ByteArray → Nat} {rs : List SR} {k m : Nat} {fs : List FS} {c : FS} {allT : List Tl} (h : Pure F rs k m fs c.ts allT) (hm : (rowAt rs k).length ≤ m) : Pure F rs (k + 1) 0 (fs ++ [c]) [] allT := by
  refine ⟨by rw [h.tools]; simp, ?_, h.nd, h.pkg, by simp [h.len]⟩
  rw [h.paths, List.take_of_length_le hm, List.take_zero, List.append_nil, List.take_add_one]
  unfold rowAt
  cases rs[k]? <;> simp
theorem Pure.count {F : ByteArray → Nat} {rs : List SR} {k m : Nat} {fs : List FS} {cts allT : List Tl} {w : World} (h : Pure F rs k m fs cts allT) (hr : ∀ r ∈ rs, r.Ok w) : allT.length ≤ cnt rs (k + 1) := by
  have e : allT.length = ((rs.take k).flatMap SR.ss).length + ((rowAt rs k).take m).length := by rw [← List.length_append, ← h.paths, List.length_map]
  have e2 : ∀ k, ((rs.take k).flatMap SR.ss).length = cnt rs k := by
    intro k
    induction k with
    | zero => simp [cnt]
    | succ k ih =>
      rw [cnt_rowAt hr k, List.take_add_one, List.flatMap_append, List.length_append, ih]
      unfold rowAt
      cases rs[k]? <;> simp
  rw [e, e2, cnt_rowAt hr k]
  have := List.length_take_le m (rowAt rs k)
  simp only [List.length_take]
  omega

theorem ownedBy_none {ts : List Tl} {t : Tl} (h : t.pkg = none) : (fun j => OwnedBy (ts ++ [t]) (some j)) = fun j => OwnedBy ts (some j) := by
  funext j
  rw [← ownedBy_snoc]
  simp [h]
theorem ownedBy_some {ts : List Tl} {t : Tl} {i : Nat} (h : t.pkg = some i) : (fun j => OwnedBy (ts ++ [t]) (some j)) = fun j => OwnedBy ts (some j) ∨ j = i := by
  funext j
  rw [← ownedBy_snoc]
  simp [h]

/-! ### what the graph is -/
/-- Package i owns a tool. -/
def ownerOf (rs1 rs2 : List SR) (n i : Nat) : Bool := (rs2.flatMap SR.ss).any (fun p => decide (ownTo rs1 n p = i + 1))
theorem owner_iff {rs1 rs2 : List SR} {n m i : Nat} {fs : List FS} {cts allT : List Tl} {k : Nat} (h : Pure (ownTo rs1 n) rs2 k 0 fs cts allT) (hk : rs2.length ≤ k) : ownerOf rs1 rs2 n i = true ↔ OwnedBy allT (some i) := by
  have hp := h.paths
  rw [List.take_zero, List.append_nil, List.take_of_length_le hk] at hp
  unfold ownerOf OwnedBy
  rw [List.any_eq_true, ← hp]
  constructor
  · rintro ⟨p, hp, e⟩
    obtain ⟨t, ht, rfl⟩ := List.mem_map.1 hp
    have e' := of_decide_eq_true e
    exact ⟨t, ht, by rw [h.pkg t ht, pkgOf_succ e']⟩
  · rintro ⟨t, ht, e⟩
    refine ⟨t.path, List.mem_map.2 ⟨t, ht, rfl⟩, decide_eq_true ?_⟩
    rw [h.pkg t ht] at e
    unfold pkgOf at e
    split at e
    · cases e
    · simp at e; omega

structure GOk (w : World) (n gG gP : Nat) (pa oa : Option Addr) (f : Nat → Bool) : Prop where
  ex : ∃ fa nf cf, ∃ fs : List Fl, fs.length = nf ∧ w.cell? ⟨gG, 1, none⟩ = some (.slice fa nf cf) ∧ Row Fl.enc w fa fs ∧ (∀ x ∈ fs, Fl.Ok x w gP) ∧ ((allTools fs).map Tl.b).Nodup ∧ (allTools fs).length ≤ 1048576 ∧ nf ≤ 1048576 ∧ ∀ i, f i = true ↔ OwnedBy (allTools fs) (some i)
  ptr : w.cell? ⟨gG, 3, none⟩ = some (.slice pa n n)
  row : Row (PP gP) w pa (List.range n)
  own : Row Value.bool w oa ((List.range n).map f)
theorem GOk.later {w w' : World} {n gG gP : Nat} {pa oa : Option Addr} {f : Nat → Bool} (h : GOk w n gG gP pa oa f) (hb : Below w.heap.size w w') : GOk w' n gG gP pa oa f := by
  obtain ⟨⟨fa, nf, cf, fs, h1, h2, h3, h4, h5⟩, h6, h7, h8⟩ := h
  exact ⟨⟨fa, nf, cf, fs, h1, by rw [hb.cell (p := ⟨gG, 1, none⟩) (lt_of_cell h2)]; exact h2, h3.later hb, fun x hx => (h4 x hx).later hb, h5⟩, by rw [hb.cell (p := ⟨gG, 3, none⟩) (lt_of_cell h6)]; exact h6, h7.later hb, h8.later hb⟩

/-- The finished files as the graph's. -/
theorem FS.toFl {f : FS} {w : World} {B g : Nat} (h : f.Ok w B) (ht : ∀ t ∈ f.ts, t.Ok w g) : ∃ x : Fl, x.b = f.b ∧ x.ts = f.ts ∧ x.Ok w g := by
  obtain ⟨ao, c, e, hrow, hnil, _⟩ := h.own.slice
  exact ⟨⟨f.b, ao, c, f.ts⟩, rfl, rfl, ⟨by rw [← e]; exact h.cell, hrow, hnil, ht⟩⟩
theorem FS.toFls {w : World} {B g : Nat} : ∀ fs : List FS, (∀ f ∈ fs, f.Ok w B) → (∀ f ∈ fs, ∀ t ∈ f.ts, t.Ok w g) → ∃ xs : List Fl, xs.map Fl.b = fs.map FS.b ∧ xs.map Fl.ts = fs.map FS.ts ∧ ∀ x ∈ xs, x.Ok w g
  | [], _, _ => ⟨[], rfl, rfl, by simp⟩
  | f :: fs, h1, h2 => by
    obtain ⟨x, e1, e2, hx⟩ := FS.toFl (h1 f (.head _)) (h2 f (.head _))
    obtain ⟨xs, e3, e4, hxs⟩ := FS.toFls fs (fun f hf => h1 f (.tail _ hf)) (fun f hf => h2 f (.tail _ hf))
    refine ⟨x :: xs, by simp [e1, e3], by simp [e2, e4], fun y hy => ?_⟩
    cases hy with
    | head => exact hx
    | tail _ hy => exact hxs y hy

end Go.Proofs.Qxb6605700a
