import Derived.Test.Qxb6605859aFmtAllow
import Derived.Laws.OwnMore
namespace Go.Proofs.Qxb6605859aFmt
open Go.ChangeShapes Go.WideShapes Go.ChangeAt Go.RowKit
open Go.Extern.Stop Go.Stop Go.Extern
set_option linter.unusedVariables false

/-- Every number is a uint16. -/
def U16 (zs : List Int) : Prop := ∀ t ∈ zs, 0 ≤ t ∧ t ≤ 65535
theorem U16.at {zs : List Int} (h : U16 zs) {j : Nat} (hj : j < zs.length) : 0 ≤ zs.getD j 0 ∧ zs.getD j 0 ≤ 65535 := h _ (by simp [hj])

/-- What is told of a slice of uint16 that came in. -/
structure In16 (w : World) (a : Option Addr) (l c : Nat) (zs : List Int) : Prop where
  len : zs.length = l
  row : Row .u16 w 0 a zs
  nil : a = none → l = 0 ∧ c = 0
  max : l ≤ 9223372036854775807
  bnd : U16 zs
theorem In16.later {w w' : World} {a : Option Addr} {l c : Nat} {zs : List Int} (h : In16 w a l c zs) (hb : Below w.heap.size w w') : In16 w' a l c zs := ⟨h.len, h.row.later hb, h.nil, h.max, h.bnd⟩

/-! ### the table -/
structure FLoop (w : World) (g : Nat) (az : List Int) (k : Nat) (wr : World) : Prop where
  below : Below g w wr
  blk : Blk wr g 4 65536
  val : ∀ v : Nat, v < 65536 → wr.cell? ⟨g, v, none⟩ = some (.bool (inB (az.take k) (v : Int)))

theorem rep_size (n : Nat) : (List.replicate n (Value.bool false)).toArray.size = n := by simp
theorem rep_get (n v : Nat) (h : v < n) : (List.replicate n (Value.bool false)).toArray[v]? = some (.bool false) := by simp [h]
theorem made_rep (n : Nat) : (madeCells (Value.bool false).cells (n * 1)).toList = List.replicate n (.bool false) := by
  rw [Nat.mul_one]; exact toList_madeCells_one (.bool false) n
theorem FLoop.start {w w1 : World} {g : Nat} {az : List Int} (hs : w.heap.size = g) (hg : w.grownBy w1 none) (hb : w1.heap[g]? = some (.cells ((madeCells (Value.bool false).cells (65536 * 1)).toList).toArray 4 (0, 0))) : FLoop w g az 0 w1 := by
  rw [made_rep] at hb
  refine ⟨(Below.refl _ _).grown hg (by omega) (by intro k hk; cases hk), ⟨_, hb, rep_size 65536⟩, fun v hv => ?_⟩
  have hi : inB (az.take 0) (v : Int) = false := by simp [inB]
  rw [hi]
  simp only [World.cell?, hb]
  exact rep_get 65536 v hv

theorem FLoop.next {w wr : World} {g : Nat} {az : List Int} {k a : Nat} (h : FLoop w g az k wr) (hk : k < az.length) (ha : az.getD k 0 = (a : Int)) (hlt : a < 65536) : FLoop w g az (k + 1) (wr.setCell ⟨g, a, none⟩ (.bool true)) := by
  refine ⟨h.below.setCell (p := ⟨g, a, none⟩) (Nat.le_refl _) _, h.blk.set a _, fun v hv => ?_⟩
  have hs := take_snoc az k hk
  rw [ha] at hs
  by_cases e : v = a
  · subst e
    have hi : inB (az.take (k + 1)) (v : Int) = true := by rw [inB_true, hs]; simp
    rw [hi]
    exact set_same (h.val v hv)
  · rw [set_other (fun h => e h.symm), h.val v hv]
    have hi : inB (az.take (k + 1)) (v : Int) = inB (az.take k) (v : Int) := by
      rw [Bool.eq_iff_iff, inB_true, inB_true, hs]
      simp; omega
    rw [hi]

/-! ### the count -/
def Cnt (az L : List Int) (q : Int) : Prop := 0 ≤ q ∧ q ≤ L.length ∧ (q = 0 ↔ ∀ t ∈ L, inB az t = true)
theorem cnt_nil (az : List Int) : Cnt az [] 0 := ⟨by omega, by simp, by simp⟩
theorem cnt_in {az L : List Int} {q x : Int} (h : Cnt az L q) (hx : inB az x = true) : Cnt az (L ++ [x]) q := by
  obtain ⟨h0, h1, h2⟩ := h
  refine ⟨h0, by simp; omega, ?_⟩
  rw [h2]
  constructor
  · intro h t ht
    rw [List.mem_append] at ht
    rcases ht with ht | ht
    · exact h t ht
    · simp at ht; rw [ht]; exact hx
  · intro h t ht
    exact h t (by simp [ht])
theorem cnt_out {az L : List Int} {q x : Int} (h : Cnt az L q) (hx : inB az x = false) : Cnt az (L ++ [x]) (q + 1) := by
  obtain ⟨h0, h1, h2⟩ := h
  refine ⟨by omega, by simp; omega, ?_⟩
  constructor
  · intro h; omega
  · intro h
    have := h x (by simp)
    rw [hx] at this
    cases this
theorem pre_len {E : Nat → Ent} {n : Nat} (h : ∀ i, i < n → (E i).ez.length ≤ 1048576) : ∀ k, k ≤ n → (pre E k).length ≤ k * 1048576
  | 0, _ => by simp [pre]
  | k + 1, hk => by
    have := pre_len h k (by omega)
    have := h k (by omega)
    rw [pre_succ, List.length_append]
    omega
theorem all_in {az : List Int} {E : Nat → Ent} {n : Nat} : AllOk (inB az) E n ↔ ∀ t ∈ pre E n, inB az t = true := by
  constructor
  · intro h t ht
    obtain ⟨i, hi, hm⟩ := mem_pre.1 ht
    exact h i hi t hm
  · intro h i hi t ht
    exact h t (mem_pre.2 ⟨i, hi, ht⟩)

def OutC (az : List Int) (E : Nat → Ent) (n : Nat) (s i : Value) : Prop := ∃ (k : Nat) (q : Int), k ≤ n ∧ s = .int .i64 q ∧ i = .int .i64 k ∧ Cnt az (pre E k) q
def InC (az L ez : List Int) (s i : Value) : Prop := ∃ (j : Nat) (q : Int), j ≤ ez.length ∧ s = .int .i64 q ∧ i = .int .i64 j ∧ Cnt az (L ++ ez.take j) q

theorem info4 : (Tryf.prog.info? 4).map (fun i => (i.zero, i.size, i.bytes)) = some (some (.bool false), 1, 1) := by kernel_rfl

end Go.Proofs.Qxb6605859aFmt
