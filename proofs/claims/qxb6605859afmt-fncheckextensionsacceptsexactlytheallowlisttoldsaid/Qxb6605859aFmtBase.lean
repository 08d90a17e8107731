import Derived.Test.Qxb6605859aFmtErr
import Derived.ProofKit
import Derived.OpenShut
import Derived.Laws.CopyOwn
import Derived.OneCell
namespace Go.Proofs.Qxb6605859aFmt
open Go.ChangeShapes Go.WideShapes Go.ChangeAt Go.RowKit
set_option linter.unusedVariables false

theorem hide {p : Prop} (h : p) : Hid p := h
theorem below_drewN {B : Nat} {a w : World} (h : Below B a w) (n : Nat) : Below B a (w.drewN n) := ⟨h.os, h.tape, h.output, h.size, h.block⟩
theorem below_then {A B C : World} (h : Below A.heap.size A B) (k : Below B.heap.size B C) : Below A.heap.size A C := h.trans (k.mono h.size)

/-- The slice at 'ao' holds the integers 'zs' of kind k, in a block from B on. -/
def Row (k : IntKind) (w : World) (B : Nat) (ao : Option Addr) (zs : List Int) : Prop :=
  zs = [] ∨ ∃ b off, ao = some ⟨b, off, none⟩ ∧ B ≤ b ∧ ∀ i, i < zs.length → w.cell? ⟨b, off + i, none⟩ = some (.int k (zs.getD i 0))

theorem lt_of_cell {w : World} {a : Addr} {v : Value} (h : w.cell? a = some v) : a.block < w.heap.size := by
  by_cases hb : a.block < w.heap.size
  · exact hb
  · have : w.heap[a.block]? = none := Array.getElem?_eq_none (by omega)
    simp [World.cell?, this] at h

theorem Row.mono {k : IntKind} {w : World} {B B' : Nat} {ao : Option Addr} {zs : List Int} (h : Row k w B ao zs) (hB : B' ≤ B) : Row k w B' ao zs := by
  rcases h with h | ⟨b, off, rfl, hb, hc⟩
  · exact .inl h
  · exact .inr ⟨b, off, rfl, by omega, hc⟩

theorem Row.later {k : IntKind} {w w' : World} {B : Nat} {ao : Option Addr} {zs : List Int} (h : Row k w B ao zs) (hb : Below w.heap.size w w') : Row k w' B ao zs := by
  rcases h with h | ⟨b, off, rfl, hB, hc⟩
  · exact .inl h
  · refine .inr ⟨b, off, rfl, hB, fun i hi => ?_⟩
    have h1 := hc i hi
    rw [hb.cell (p := ⟨b, off + i, none⟩) (lt_of_cell h1)]
    exact h1

theorem Row.setCell {k : IntKind} {w : World} {B : Nat} {ao : Option Addr} {zs : List Int} (h : Row k w B ao zs) {a : Addr} (ha : a.block < B) (u : Value) : Row k (w.setCell a u) B ao zs := by
  rcases h with h | ⟨b, off, rfl, hB, hc⟩
  · exact .inl h
  · refine .inr ⟨b, off, rfl, hB, fun i hi => ?_⟩
    have e : (w.setCell a u).cell? ⟨b, off + i, none⟩ = w.cell? ⟨b, off + i, none⟩ := World.cell?_of_block (w := w) (Below.heap_setCell w a u b (by omega))
    rw [e]; exact hc i hi

theorem row_of_cells {k : IntKind} {w : World} {x : Addr} {zs : List Int} (hc : ∀ i, i < zs.length → w.cell? (x.add i) = some (.int k (zs.getD i 0))) (len : Nat) : Row k w 0 (some x) (zs.take len) := by
  by_cases hp : 0 < zs.length
  · obtain ⟨b, off, rfl, h⟩ := ints_at hc hp
    refine .inr ⟨b, off, rfl, Nat.zero_le _, fun i hi => ?_⟩
    rw [List.length_take] at hi
    rw [h i (by omega)]
    simp [show i < len from by omega]
  · obtain rfl : zs = [] := List.eq_nil_of_length_eq_zero (by omega)
    exact .inl (by simp)

theorem map_get {k : IntKind} (zs : List Int) (j : Nat) (v : Value) (h : (zs.map (Value.int k))[j]? = some v) : j < zs.length ∧ v = .int k (zs.getD j 0) := by
  rw [List.getElem?_map] at h
  by_cases hj : j < zs.length
  · rw [List.getElem?_eq_getElem hj] at h
    simp at h
    exact ⟨hj, by simp [hj, ← h]⟩
  · rw [List.getElem?_eq_none (by omega)] at h; simp at h

theorem splice_whole {α : Type} (L cs : List α) (h : L.length = cs.length) : splice L 0 cs = cs := by
  simp [splice, ← h]

theorem block_of_owns {w : World} {B e size : Nat} {g n : Nat} {xs : List Value} (h : w.ownsRow B e size (.slice (some ⟨g, 0, none⟩) n n) n xs) : w.heap[g]? = some (.cells xs.toArray e (0, 0)) ∧ xs.length = n * size := by
  obtain ⟨h1, h2⟩ := h
  rcases h2 with ⟨h2, _⟩ | ⟨g', cap, cur, hv, hB, hg, _, _, hs, ht⟩
  · simp at h2
  · simp at hv
    obtain ⟨rfl, rfl⟩ := hv
    refine ⟨?_, h1⟩
    have e : cur.toList.take (n * size) = cur.toList := List.take_of_length_le (by simp [hs])
    rw [hg, ← ht, e]

theorem block_of_owns1 {w : World} {B e : Nat} {g n : Nat} {xs : List Value} (h : w.ownsRow B e 1 (.slice (some ⟨g, 0, none⟩) n n) n xs) : w.heap[g]? = some (.cells xs.toArray e (0, 0)) ∧ xs.length = n := by
  have := block_of_owns h
  rw [Nat.mul_one] at this
  exact this

theorem copy_src {k : IntKind} {w w1 : World} {B : Nat} {x : Addr} {zs : List Int} (hr : Row k w B (some x) zs) (hg : w.grownBy w1 none) (g : Addr) :
    0 < (zs.map (Value.int k)).length → (some g : Option Addr) = some g ∧ ∃ ad, some x = some ad ∧ ∀ j v, (zs.map (Value.int k))[j]? = some v → w1.cell? (ad.add j) = some v := by
  intro hp
  refine ⟨rfl, x, rfl, fun j v hj => ?_⟩
  obtain ⟨hjl, rfl⟩ := map_get zs j v hj
  rcases hr with h | ⟨b, off, hx, _, hc⟩
  · rw [h] at hjl; simp at hjl
  · obtain rfl : x = ⟨b, off, none⟩ := by simpa using hx
    rw [Go.WideShapes.add_plain]
    exact hg.cell (hc j hjl) (by simp)
theorem ones {k : IntKind} (zs : List Int) : ∀ v ∈ zs.map (Value.int k), v.oneCell' = true := by
  intro v hv
  simp at hv
  obtain ⟨z, _, rfl⟩ := hv
  rfl
theorem row_of_block {k : IntKind} {w : World} {B g t : Nat} {zs : List Int} (hB : B ≤ g) (hg : w.heap[g]? = some (.cells (zs.map (Value.int k)).toArray t (0, 0))) : Row k w B (some ⟨g, 0, none⟩) zs := by
  refine .inr ⟨g, 0, rfl, hB, fun i hi => ?_⟩
  simp [World.cell?, hg, hi]

theorem info5 : (Tryf.prog.info? 5).map (fun i => (i.zero, i.size, i.bytes)) = some (some (.int .u8 0), 1, 1) := by kernel_rfl
theorem info24 : (Tryf.prog.info? 24).map (fun i => (i.zero, i.size, i.bytes)) = some (some (.int .u16 0), 1, 2) := by kernel_rfl

set_option maxHeartbeats 400000 in
theorem clone8 (ao : Option Addr) (len cap : Nat) (zs : List Int) (w : World) (hz : zs.length = len) (hr : Row .u8 w 0 ao zs) (hnil : ao = none → len = 0 ∧ cap = 0) (hm : len ≤ 140737488355328) :
    Calls Tryf.prog 7 #[.slice ao len cap] w fun e w' => ∃ a', e = .returned (.slice a' len len) ∧ Below w.heap.size w w' ∧ Row .u8 w' w.heap.size a' zs ∧ (a' = none → len = 0 ∧ len = 0) := by
  have heq := fun wx => Lib.run_eql_slice_nil (P := Tryf.prog) wx 22 5 ao len cap 0 0 Tryf.underlying22
  cases ao with
  | none =>
    obtain ⟨rfl, rfl⟩ := hnil rfl
    obtain rfl : zs = [] := List.eq_nil_of_length_eq_zero hz
    clear hnil hr
    go_enter Tryf.func7, Tryf.ntmps7
    go_wp2
    go_ret
    exact ⟨none, rfl, Below.refl _ _, .inl rfl, fun _ => by simp⟩
  | some x =>
    obtain ⟨i0, hi, hz0, hz1, hz2⟩ := info_parts info5
    clear hnil
    obtain ⟨cs, hcs⟩ : ∃ cs, cs = zs.map (Value.int .u8) := ⟨_, rfl⟩
    have hcl : cs.length = len := by rw [hcs]; simp [hz]
    have HR := hide hr
    have HC := hide hcs
    have HZ := hide hz
    clear hr hcs hz
    go_enter Tryf.func7, Tryf.ntmps7
    go_wp2_with (first
      | (at_make; refine wpList_make_full _ rfl _ _ 22 rfl w.heap.size 5 i0 (.int .u8 0) 1 Tryf.underlying22 hi hz0 hz1 _ _ _ _ len rfl rfl rfl rfl (by rw [hz2]; omega) (by unfold maxLen; omega) (Nat.le_refl _) ?_; intro w1 hown hgrow; obtain ⟨hblk, hln⟩ := block_of_owns1 hown; clear hown)
      | (refine wpList_copy_splice rfl (.tmp 9) (.tmp 10) 22 22 rfl 5 Tryf.underlying22 (by kernel_rfl) _ _ _ _ _ _ rfl rfl w.heap.size 0 _ 5 hblk cs (by rw [hcl]; simp) (by rw [HC.out]; exact copy_src HR.out hgrow _) (by rw [hln, hcl]; omega) (by rw [HC.out]; exact ones zs) w.heap.size w ((Below.refl _ _).grown hgrow (Nat.le_refl _) (by intro k hk; cases hk)) (Nat.le_refl _) ?_; intro w2 HG hB2))
    go_ret
    have hg2 := HG.out
    rw [splice_whole _ _ (by rw [hln, hcl]), HC.out] at hg2
    exact ⟨_, rfl, hB2, row_of_block (Nat.le_refl _) hg2, fun h => by cases h⟩

set_option maxHeartbeats 400000 in
theorem clone16 (ao : Option Addr) (len cap : Nat) (zs : List Int) (w : World) (hz : zs.length = len) (hr : Row .u16 w 0 ao zs) (hnil : ao = none → len = 0 ∧ cap = 0) (hm : len ≤ 140737488355328) :
    Calls Tryf.prog 13 #[.slice ao len cap] w fun e w' => ∃ a', e = .returned (.slice a' len len) ∧ Below w.heap.size w w' ∧ Row .u16 w' w.heap.size a' zs ∧ (a' = none → len = 0 ∧ len = 0) := by
  have heq := fun wx => Lib.run_eql_slice_nil (P := Tryf.prog) wx 29 24 ao len cap 0 0 Tryf.underlying29
  cases ao with
  | none =>
    obtain ⟨rfl, rfl⟩ := hnil rfl
    obtain rfl : zs = [] := List.eq_nil_of_length_eq_zero hz
    clear hnil hr
    go_enter Tryf.func13, Tryf.ntmps13
    go_wp2
    go_ret
    exact ⟨none, rfl, Below.refl _ _, .inl rfl, fun _ => by simp⟩
  | some x =>
    obtain ⟨i0, hi, hz0, hz1, hz2⟩ := info_parts info24
    clear hnil
    obtain ⟨cs, hcs⟩ : ∃ cs, cs = zs.map (Value.int .u16) := ⟨_, rfl⟩
    have hcl : cs.length = len := by rw [hcs]; simp [hz]
    have HR := hide hr
    have HC := hide hcs
    have HZ := hide hz
    clear hr hcs hz
    go_enter Tryf.func13, Tryf.ntmps13
    go_wp2_with (first
      | (at_make; refine wpList_make_full _ rfl _ _ 29 rfl w.heap.size 24 i0 (.int .u16 0) 1 Tryf.underlying29 hi hz0 hz1 _ _ _ _ len rfl rfl rfl rfl (by rw [hz2]; omega) (by unfold maxLen; omega) (Nat.le_refl _) ?_; intro w1 hown hgrow; obtain ⟨hblk, hln⟩ := block_of_owns1 hown; clear hown)
      | (refine wpList_copy_splice rfl (.tmp 9) (.tmp 10) 29 29 rfl 24 Tryf.underlying29 (by kernel_rfl) _ _ _ _ _ _ rfl rfl w.heap.size 0 _ 24 hblk cs (by rw [hcl]; simp) (by rw [HC.out]; exact copy_src HR.out hgrow _) (by rw [hln, hcl]; omega) (by rw [HC.out]; exact ones zs) w.heap.size w ((Below.refl _ _).grown hgrow (Nat.le_refl _) (by intro k hk; cases hk)) (Nat.le_refl _) ?_; intro w2 HG hB2))
    go_ret
    have hg2 := HG.out
    rw [splice_whole _ _ (by rw [hln, hcl]), HC.out] at hg2
    exact ⟨_, rfl, hB2, row_of_block (Nat.le_refl _) hg2, fun h => by cases h⟩

end Go.Proofs.Qxb6605859aFmt
