import Derived.Test.Qxb6605700aGr0
namespace Go.Proofs.Qxb6605700a
open Go.ChangeShapes Go.WideShapes Go.ChangeAt Go.RowKit
set_option linter.unusedVariables false

/-- The strings of row k. -/
def rowAt (rs : List SR) (k : Nat) : List ByteArray := match rs[k]? with | some r => r.ss | none => []
def isIn (p : ByteArray) (l : List ByteArray) : Bool := l.any (fun q => decide (q = p))
theorem isIn_iff {p : ByteArray} {l : List ByteArray} : isIn p l = true ↔ p ∈ l := by simp [isIn]
/-- Which package (its number and one) owns p, of the first i. -/
def ownTo (rs : List SR) : Nat → ByteArray → Nat
  | 0, _ => 0
  | i + 1, p => if isIn p (rowAt rs i) then i + 1 else ownTo rs i p
theorem ownTo_le (rs : List SR) : ∀ i p, ownTo rs i p ≤ i
  | 0, _ => Nat.le_refl _
  | i + 1, p => by
    unfold ownTo
    split
    · exact Nat.le_refl _
    · have := ownTo_le rs i p; omega
/-- .. behind k strings of row i. -/
def ownMid (rs : List SR) (i k : Nat) (p : ByteArray) : Nat := if isIn p ((rowAt rs i).take k) then i + 1 else ownTo rs i p
theorem ownMid_zero (rs : List SR) (i : Nat) : ownMid rs i 0 = ownTo rs i := by funext p; simp [ownMid, isIn]
theorem ownMid_all (rs : List SR) (i k : Nat) (h : (rowAt rs i).length ≤ k) : ownMid rs i k = ownTo rs (i + 1) := by
  funext p
  rw [ownMid, List.take_of_length_le h, ownTo]
theorem ownMid_succ {rs : List SR} {i k : Nat} {s : ByteArray} (h : (rowAt rs i)[k]? = some s) : (fun q => if q = s then i + 1 else ownMid rs i k q) = ownMid rs i (k + 1) := by
  funext q
  simp only [ownMid]
  rw [List.take_add_one, h]
  simp only [Option.toList, isIn, List.any_append, List.any_cons, List.any_nil, Bool.or_false]
  by_cases h1 : q = s
  · subst h1; simp
  · have h2 : decide (s = q) = false := by simp; exact fun e => h1 e.symm
    rw [if_neg h1, h2, Bool.or_false]
    rfl

theorem cnt_rowAt {rs : List SR} {w : World} (h : ∀ r ∈ rs, r.Ok w) (k : Nat) : cnt rs (k + 1) = cnt rs k + (rowAt rs k).length := by
  unfold rowAt
  cases hk : rs[k]? with
  | none => simp [cnt, hk]
  | some r => rw [cnt_succ hk, (h r (List.mem_of_getElem? hk)).len]

/-! ### the first half of zzToolGraph -/
/-- lo: from where on the packages' Files are nil; hi: how many pointers are laid; F: what the map says. -/
structure Ph (w : World) (n gP gT gM lo hi nn : Nat) (F : ByteArray → Nat) (wr : World) : Prop where
  below : Below w.heap.size w wr
  hP : w.heap.size ≤ gP
  hT : w.heap.size ≤ gT
  hM : w.heap.size ≤ gM
  pk : Blk wr gP 55 (n * 7)
  fil : ∀ j, lo ≤ j → j < n → wr.cell? ⟨gP, j * 7 + 6, none⟩ = some (.slice none 0 0)
  pt : Blk wr gT 28 n
  pts : ∀ j, j < hi → wr.cell? ⟨gT, j, none⟩ = some (PP gP j)
  map : MapOf wr gM nn F
theorem blk_ne {w : World} {a b t t' m m' : Nat} (h : Blk w a t m) (h' : Blk w b t' m') (hne : t ≠ t') : a ≠ b := by
  obtain ⟨c, h, _⟩ := h
  obtain ⟨c', h', _⟩ := h'
  intro e
  rw [e, h'] at h
  simp at h
  exact hne h.2.symm
theorem MapOf.blkNe {w : World} {m nn b t k : Nat} {F : ByteArray → Nat} (h : MapOf w m nn F) (hc : Blk w b t k) : m ≠ b := by
  obtain ⟨es, c, hb⟩ := h.isMap
  obtain ⟨cs, hb', _⟩ := hc
  intro e
  rw [e, hb'] at hb
  simp at hb
theorem grown_setCell (w : World) (g o : Nat) (v : Value) : w.grownBy (w.setCell ⟨g, o, none⟩ v) (some g) :=
  ⟨rfl, rfl, rfl, by simp, fun k _ hk => Below.heap_setCell w ⟨g, o, none⟩ v k (fun e => hk (by rw [e]))⟩

theorem Ph.later {w wr w' : World} {n gP gT gM lo hi nn : Nat} {F : ByteArray → Nat} (h : Ph w n gP gT gM lo hi nn F wr) (hb : Below wr.heap.size wr w') : Ph w n gP gT gM lo hi nn F w' :=
  ⟨h.below.trans (hb.mono h.below.size), h.hP, h.hT, h.hM, h.pk.later hb, fun j h1 h2 => by rw [hb.cell (p := ⟨gP, j * 7 + 6, none⟩) h.pk.lt]; exact h.fil j h1 h2, h.pt.later hb, fun j h1 => by rw [hb.cell (p := ⟨gT, j, none⟩) h.pt.lt]; exact h.pts j h1, h.map.later hb⟩
theorem Ph.setP {w wr : World} {n gP gT gM lo hi nn : Nat} {F : ByteArray → Nat} (h : Ph w n gP gT gM lo hi nn F wr) (lo' o : Nat) (v : Value) (hlo : lo ≤ lo') (ho : ∀ j, lo' ≤ j → o ≠ j * 7 + 6) : Ph w n gP gT gM lo' hi nn F (wr.setCell ⟨gP, o, none⟩ v) := by
  have hne := blk_ne h.pk h.pt (by decide)
  have hm := h.map.blkNe h.pk
  exact ⟨h.below.setCell (p := ⟨gP, o, none⟩) h.hP _, h.hP, h.hT, h.hM, h.pk.set o v, fun j h1 h2 => by rw [set_other (ho j h1)]; exact h.fil j (by omega) h2, h.pt.setOther (fun e => hne e.symm) o v, fun j h1 => by rw [set_far hne]; exact h.pts j h1, h.map.kept (grown_setCell _ _ _ _) (by simpa using hm)⟩
theorem Ph.setT {w wr : World} {n gP gT gM lo hi nn : Nat} {F : ByteArray → Nat} (h : Ph w n gP gT gM lo hi nn F wr) (hh : hi < n) : Ph w n gP gT gM lo (hi + 1) nn F (wr.setCell ⟨gT, hi, none⟩ (PP gP hi)) := by
  have hne := blk_ne h.pk h.pt (by decide)
  have hm := h.map.blkNe h.pt
  obtain ⟨v, hv⟩ := h.pt.cell hh
  refine ⟨h.below.setCell (p := ⟨gT, hi, none⟩) h.hT _, h.hP, h.hT, h.hM, h.pk.setOther hne hi _, fun j h1 h2 => by rw [set_far (fun e => hne e.symm)]; exact h.fil j h1 h2, h.pt.set hi _, fun j h1 => ?_, h.map.kept (grown_setCell _ _ _ _) (by simpa using hm)⟩
  by_cases e : j = hi
  · subst e; exact set_same hv
  · rw [set_other (fun x => e x.symm)]; exact h.pts j (by omega)
theorem Ph.put {w wr w' : World} {n gP gT gM lo hi nn nn' : Nat} {F F' : ByteArray → Nat} (h : Ph w n gP gT gM lo hi nn F wr) (hm : MapOf w' gM nn' F') (hg : wr.grownBy w' (some gM)) : Ph w n gP gT gM lo hi nn' F' w' := by
  have h1 := h.map.blkNe h.pk
  have h2 := h.map.blkNe h.pt
  exact ⟨h.below.grown hg h.below.size (by intro k hk; cases hk; exact h.hM), h.hP, h.hT, h.hM, h.pk.keep (hg.block gP h.pk.lt (by simpa using fun e => h1 e.symm)), fun j a1 a2 => by rw [World.cell?_of_block (w := wr) (a := ⟨gP, j * 7 + 6, none⟩) (hg.block gP h.pk.lt (by simpa using fun e => h1 e.symm))]; exact h.fil j a1 a2,
    h.pt.keep (hg.block gT h.pt.lt (by simpa using fun e => h2 e.symm)), fun j a1 => by rw [World.cell?_of_block (w := wr) (a := ⟨gT, j, none⟩) (hg.block gT h.pt.lt (by simpa using fun e => h2 e.symm))]; exact h.pts j a1, hm⟩

theorem info55a : (Try.prog.info? 55).map (fun i => (i.size, i.zero.map (fun z => (z.cells.size, z.cells[6]!)), decide (i.bytes ≤ 200))) = some (7, some (7, .slice none 0 0), true) := by kernel_rfl
theorem info55z : ∃ i z, Try.prog.info? 55 = some i ∧ i.zero = some z ∧ i.size = 7 ∧ i.bytes ≤ 200 ∧ z.cells.size = 7 ∧ z.cells[6]! = .slice none 0 0 := by
  have h := info55a
  cases hi : Try.prog.info? 55 with
  | none => simp [hi] at h
  | some i =>
    cases hz : i.zero with
    | none => simp [hi, hz] at h
    | some z => simp [hi, hz] at h; exact ⟨i, z, rfl, hz, h.1, h.2.2, h.2.1.1, h.2.1.2⟩

theorem made55 {z : Value} (h7 : z.cells.size = 7) (h6 : z.cells[6]! = .slice none 0 0) {n j : Nat} (hj : j < n) : (madeCells z.cells (n * 7)).toList[j * 7 + 6]? = some (.slice none 0 0) := by
  rw [Array.getElem?_toList, madeCells, Array.getElem?_map, Array.getElem?_range]
  rw [if_pos (by omega)]
  simp only [Option.map_some]
  have e : (j * 7 + 6) % z.cells.size = 6 := by rw [h7]; omega
  rw [e, h6]

theorem Ph.start {w w1 w2 : World} {n gP gT : Nat} {z zp : Value} (h7 : z.cells.size = 7) (h6 : z.cells[6]! = .slice none 0 0) (e1 : gP = w.heap.size) (e2 : gT = w1.heap.size)
    (ho1 : w1.ownsRow w.heap.size 55 7 (.slice (some ⟨gP, 0, none⟩) n n) n (madeCells z.cells (n * 7)).toList) (hg1 : w.grownBy w1 none)
    (ho2 : w2.ownsRow w.heap.size 28 1 (.slice (some ⟨gT, 0, none⟩) n n) n (madeCells zp.cells (n * 1)).toList) (hg2 : w1.grownBy w2 none) :
    Ph w n gP gT w2.heap.size 0 0 0 (fun _ => 0) (w2.alloc (.map #[] 0)) := by
  have b1 : Below w.heap.size w w1 := (Below.refl _ _).grown hg1 (Nat.le_refl _) (by intro k hk; cases hk)
  have b2 : Below w1.heap.size w1 w2 := (Below.refl _ _).grown hg2 (Nat.le_refl _) (by intro k hk; cases hk)
  have b3 := below_alloc w2 (.map #[] 0)
  have B1 := block_of_owns ho1
  have k1 := blk_of_owns ho1
  have k2 := blk_of_owns ho2
  rw [Nat.mul_one] at k2
  refine ⟨below_then b1 (below_then b2 b3), by omega, by rw [e2]; exact b1.size, by have := b1.size; have := b2.size; omega, (k1.later b2).later b3, fun j _ hj => ?_, k2.later b3, fun j hj => absurd hj (Nat.not_lt_zero _), MapOf.made w2⟩
  have hc : w1.cell? ⟨gP, j * 7 + 6, none⟩ = some (.slice none 0 0) := by
    have := made55 h7 h6 hj
    simpa [World.cell?, B1.1] using this
  rw [(below_then b2 b3).cell (p := ⟨gP, j * 7 + 6, none⟩) k1.lt]
  exact hc

end Go.Proofs.Qxb6605700a
