import Derived.Test.Qxb6605859aHeadWalk
import Derived.OneCell
namespace Go.Proofs.Qxb6605859a
open Go.ChangeShapes Go.WideShapes Go.ChangeAt Go.RowKit
set_option linter.unusedVariables false

/-- The parser variable: block 'gp' of one cell, which holds the slice 'v'. -/
def Par (w : World) (gp : Nat) (v : Value) : Prop := w.heap[gp]? = some (.cells #[v] 35 (0, 0))
/-- Behind a store into block 'gp' alone. -/
structure Kept (gp : Nat) (w w' : World) : Prop where
  below : Below gp w w'
  other : ∀ k, k ≠ gp → w'.heap[k]? = w.heap[k]?

theorem kept_set {w : World} {gp : Nat} (u : Value) : Kept gp w (w.setCell ⟨gp, 0, none⟩ u) :=
  ⟨(Below.refl gp w).setCell (p := ⟨gp, 0, none⟩) (Nat.le_refl gp) u, fun k hk => Below.heap_setCell w ⟨gp, 0, none⟩ u k hk⟩
theorem Kept.trans {gp : Nat} {a b c : World} (h : Kept gp a b) (k : Kept gp b c) : Kept gp a c := ⟨h.below.trans k.below, fun i hi => (k.other i hi).trans (h.other i hi)⟩

theorem Row.kept {w w' : World} {gp g o : Nat} {ys : List Int} (h : Row w (some ⟨g, o, none⟩) ys) (hk : Kept gp w w') (hne : g ≠ gp) : Row w' (some ⟨g, o, none⟩) ys := by
  rcases h with h | ⟨b, off, hx, hc⟩
  · exact .inl h
  · simp at hx; obtain ⟨rfl, rfl⟩ := hx
    refine .inr ⟨g, o, rfl, fun i hi => ?_⟩
    have e : w'.cell? ⟨g, o + i, none⟩ = w.cell? ⟨g, o + i, none⟩ := World.cell?_of_block (w := w) (hk.other g hne)
    rw [e]; exact hc i hi

theorem or0 (c : Int) (h0 : 0 ≤ c) (h1 : c ≤ 255) : bits .or .i64 0 c = c := by
  have := or8 0 c (by omega) (by omega) h0 h1
  simpa using this

theorem num3 (x y z : Int) (hx : 0 ≤ x ∧ x ≤ 255) (hy : 0 ≤ y ∧ y ≤ 255) (hz : 0 ≤ z ∧ z ≤ 255) :
    bits .or .i64 (wrap64 (bits .or .i64 (wrap64 (bits .or .i64 0 x * 256)) y * 256)) z = x * 65536 + y * 256 + z := by
  rw [or0 x hx.1 hx.2, Go.IntWalk.wrap64_in (x * 256) (by omega), or8 x y hx.1 (by omega) hy.1 hy.2, Go.IntWalk.wrap64_in ((x * 256 + y) * 256) (by omega), or8 (x * 256 + y) z (by omega) (by omega) hz.1 hz.2]
  omega

theorem ret_pair {a b : Int} (h : a = b) : Ending.returned (.tuple #[.int .i64 a, .bool true]) = .returned (.tuple #[.int .i64 b, .bool true]) := by rw [h]

set_option maxRecDepth 100000 in
set_option maxHeartbeats 1000000 in
theorem uint1 (gp g o L C : Nat) (c : Int) (w : World) (hp : Par w gp (.slice (some ⟨g, o, none⟩) L C)) (hL : 1 ≤ L) (hLC : L ≤ C) (hC : 1 < C) (hC2 : C ≤ 9223372036854775807) (h0 : w.cell? ⟨g, o, none⟩ = some (.int .u8 c)) :
    Calls Try.prog 20 #[.pointer (some ⟨gp, 0, none⟩), .int .i64 1] w fun e w' => ∃ z, e = .returned (.tuple #[.int .i64 z, .bool true]) ∧ Par w' gp (.slice (some ⟨g, o + 1, none⟩) (L - 1) (C - 1)) ∧ Kept gp w w' := by
  have hc := cell_of_one hp
  have hf := free_of_one hp
  have HP := hide hp
  clear hp
  have hcn : ¬ C = 1 := by omega
  go_enter Try.func20, Try.ntmps20
  go_wp2
  refine wp_loop_rounds 2 ?_
  rw [rounds_succ]
  go_wp2
  rw [rounds_succ]
  go_wp2
  go_ret2
  refine ⟨_, rfl, one_setCell HP.out, kept_set _⟩

set_option maxRecDepth 100000 in
set_option maxHeartbeats 1000000 in
theorem uint3 (gp g o L C : Nat) (x y z : Int) (w : World) (hp : Par w gp (.slice (some ⟨g, o, none⟩) L C)) (hL : 3 ≤ L) (hLC : L ≤ C) (hC2 : C ≤ 9223372036854775807) (h0 : w.cell? ⟨g, o, none⟩ = some (.int .u8 x)) (h1 : w.cell? ⟨g, o + 1, none⟩ = some (.int .u8 y)) (h2 : w.cell? ⟨g, o + 2, none⟩ = some (.int .u8 z))
    (hx : 0 ≤ x ∧ x ≤ 255) (hy : 0 ≤ y ∧ y ≤ 255) (hz : 0 ≤ z ∧ z ≤ 255) :
    Calls Try.prog 20 #[.pointer (some ⟨gp, 0, none⟩), .int .i64 3] w fun e w' => e = .returned (.tuple #[.int .i64 (x * 65536 + y * 256 + z), .bool true]) ∧ Par w' gp (.slice (cutAt (some ⟨g, o, none⟩) 3 C) (L - 3) (C - 3)) ∧ Kept gp w w' := by
  have hc := cell_of_one hp
  have hf := free_of_one hp
  have HP := hide hp
  clear hp
  unfold cutAt
  by_cases hcn : C = 3
  · obtain rfl : L = 3 := by omega
    subst hcn
    rw [if_pos rfl]
    go_enter Try.func20, Try.ntmps20
    go_wp2
    refine wp_loop_rounds 4 ?_
    rw [rounds_succ]
    go_wp2
    rw [rounds_succ]
    go_wp2
    rw [rounds_succ]
    go_wp2
    rw [rounds_succ]
    go_wp2
    go_ret2
    refine ⟨ret_pair (num3 x y z hx hy hz), one_setCell HP.out, kept_set _⟩
  · rw [if_neg hcn]
    go_enter Try.func20, Try.ntmps20
    go_wp2
    refine wp_loop_rounds 4 ?_
    rw [rounds_succ]
    go_wp2
    rw [rounds_succ]
    go_wp2
    rw [rounds_succ]
    go_wp2
    rw [rounds_succ]
    go_wp2
    go_ret2
    refine ⟨ret_pair (num3 x y z hx hy hz), one_setCell HP.out, kept_set _⟩

/-! ### (*parser).bytes -/
set_option maxRecDepth 100000 in
set_option maxHeartbeats 1000000 in
theorem bytes_yes (gp : Nat) (ao : Option Addr) (L C n : Nat) (w : World) (hp : Par w gp (.slice ao L C)) (hn : n ≤ L) (hLC : L ≤ C) (hC2 : C ≤ 9223372036854775807) :
    Calls Try.prog 18 #[.pointer (some ⟨gp, 0, none⟩), .int .i64 n] w fun e w' => e = .returned (.tuple #[.slice ao n n, .bool true]) ∧ Par w' gp (.slice (cutAt ao n C) (L - n) (C - n)) ∧ Kept gp w w' := by
  have hc := cell_of_one hp
  have hf := free_of_one hp
  have HP := hide hp
  clear hp
  unfold cutAt
  by_cases hcn : C = n
  · obtain rfl : L = n := by omega
    subst hcn
    rw [if_pos rfl]
    go_enter Try.func18, Try.ntmps18
    go_wp2
    go_ret2
    refine ⟨rfl, ?_, kept_set _⟩
    simpa [Par] using one_setCell (u := .slice ao 0 0) HP.out
  · rw [if_neg hcn]
    go_enter Try.func18, Try.ntmps18
    go_wp2
    go_ret2
    exact ⟨rfl, one_setCell HP.out, kept_set _⟩

/-! ### (*parser).vector at 3 -/
set_option maxRecDepth 100000 in
set_option maxHeartbeats 1000000 in
theorem vector3 (gp g o L C : Nat) (x y z : Int) (m : Nat) (w : World) (hp : Par w gp (.slice (some ⟨g, o, none⟩) L C)) (hL : 3 + m ≤ L) (hLC : L ≤ C) (hC2 : C ≤ 9223372036854775807) (h0 : w.cell? ⟨g, o, none⟩ = some (.int .u8 x)) (h1 : w.cell? ⟨g, o + 1, none⟩ = some (.int .u8 y)) (h2 : w.cell? ⟨g, o + 2, none⟩ = some (.int .u8 z))
    (hx : 0 ≤ x ∧ x ≤ 255) (hy : 0 ≤ y ∧ y ≤ 255) (hz : 0 ≤ z ∧ z ≤ 255) (hm : x * 65536 + y * 256 + z = (m : Int)) :
    Calls Try.prog 21 #[.pointer (some ⟨gp, 0, none⟩), .int .i64 3] w fun e w' => e = .returned (.tuple #[.slice (cutAt (some ⟨g, o, none⟩) 3 C) m m, .bool true]) ∧ Par w' gp (.slice (cutAt (cutAt (some ⟨g, o, none⟩) 3 C) m (C - 3)) (L - 3 - m) (C - 3 - m)) ∧ Kept gp w w' := by
  have HM := hide hm
  clear hm
  go_enter Try.func21, Try.ntmps21
  go_wp2_with fail
  refine (uint3 gp g o L C x y z w hp (by omega) hLC hC2 h0 h1 h2 hx hy hz).mono ?_
  rintro e w1 ⟨rfl, hp1, hk1⟩
  rw [HM.out]
  clear hp h0 h1 h2
  go_wp2_with fail
  refine (bytes_yes gp _ (L - 3) (C - 3) m w1 hp1 (by omega) (by omega) (by omega)).mono ?_
  rintro e w2 ⟨rfl, hp2, hk2⟩
  go_wp2
  go_ret2
  exact ⟨rfl, hp2, hk1.trans hk2⟩

/-! ### (*parser).message -/
set_option maxRecDepth 100000 in
set_option maxHeartbeats 1000000 in
theorem message_any (gp g o L C : Nat) (t x y z : Int) (m : Nat) (w : World) (hp : Par w gp (.slice (some ⟨g, o, none⟩) L C)) (hne : g ≠ gp) (hL : 4 + m ≤ L) (hLC : L ≤ C) (hC2 : C ≤ 9223372036854775807)
    (ht : w.cell? ⟨g, o, none⟩ = some (.int .u8 t)) (h0 : w.cell? ⟨g, o + 1, none⟩ = some (.int .u8 x)) (h1 : w.cell? ⟨g, o + 2, none⟩ = some (.int .u8 y)) (h2 : w.cell? ⟨g, o + 3, none⟩ = some (.int .u8 z))
    (hx : 0 ≤ x ∧ x ≤ 255) (hy : 0 ≤ y ∧ y ≤ 255) (hz : 0 ≤ z ∧ z ≤ 255) (hm : x * 65536 + y * 256 + z = (m : Int)) :
    Calls Try.prog 17 #[.pointer (some ⟨gp, 0, none⟩)] w fun e w' => e = .returned (.tuple #[.slice (some ⟨g, o, none⟩) (4 + m) (4 + m), .slice (cutAt (some ⟨g, o + 1, none⟩) 3 (C - 1)) m m, .bool true]) ∧
      Par w' gp (.slice (cutAt (cutAt (some ⟨g, o + 1, none⟩) 3 (C - 1)) m (C - 4)) (L - 4 - m) (C - 4 - m)) ∧ Kept gp w w' := by
  have HM := hide hm
  have hc := cell_of_one hp
  have HP := hide hp
  clear hm hp
  go_enter Try.func17, Try.ntmps17
  go_wp2_with fail
  refine (uint1 gp g o L C t w HP.out (by omega) hLC (by omega) hC2 ht).mono ?_
  rintro e w1 ⟨zz, rfl, hp1, hk1⟩
  have e0 : ∀ i, w1.cell? ⟨g, i, none⟩ = w.cell? ⟨g, i, none⟩ := fun i => World.cell?_of_block (w := w) (hk1.other g hne)
  have k0 := (e0 (o + 1)).trans h0
  have k1 := (e0 (o + 2)).trans h1
  have k2 := (e0 (o + 3)).trans h2
  clear e0 h0 h1 h2 ht hc
  have HP1 := hide hp1
  clear hp1
  go_wp2_with fail
  refine (vector3 gp g (o + 1) (L - 1) (C - 1) x y z m w1 HP1.out (by omega) (by omega) (by omega) k0 k1 k2 hx hy hz HM.out).mono ?_
  rintro e w2 ⟨rfl, hp2, hk2⟩
  have hp2' : Par w2 gp (.slice (cutAt (cutAt (some ⟨g, o + 1, none⟩) 3 (C - 1)) m (C - 4)) (L - 4 - m) (C - 4 - m)) := by
    rw [show C - 4 = C - 1 - 3 from by omega, show L - 4 - m = L - 1 - 3 - m from by omega]; exact hp2
  have hc2 := cell_of_one hp2'
  have HP2 := hide hp2'
  have hk := hk1.trans hk2
  have hint : (L : Int) - ((L - 4 - m : Nat) : Int) = (4 + m : Nat) := by omega
  clear hp2 hp2' hk1 hk2 k0 k1 k2
  go_wp2
  go_ret3
  exact ⟨rfl, HP2.out, hk⟩

/-! ### ZZparserMessage -/
theorem below_of_alloc {w w' : World} {o : Obj} (h : Kept w.heap.size (w.alloc o) w') : Below w.heap.size w w' :=
  ((Below.refl _ _).alloc (Nat.le_refl _) o).trans h.below

set_option maxRecDepth 100000 in
set_option maxHeartbeats 1000000 in
theorem parse_any (g o L C : Nat) (t x y z : Int) (body tail : List Int) (m r : Nat) (w : World) (hR : Row w (some ⟨g, o, none⟩) (t :: x :: y :: z :: (body ++ tail))) (hb : body.length = m) (htl : tail.length = r) (hL : L = 4 + m + r) (hLC : L ≤ C) (hC2 : C ≤ 9223372036854775807)
    (hx : 0 ≤ x ∧ x ≤ 255) (hy : 0 ≤ y ∧ y ≤ 255) (hz : 0 ≤ z ∧ z ≤ 255) (hm : x * 65536 + y * 256 + z = (m : Int)) :
    Calls Try.prog 12 #[.slice (some ⟨g, o, none⟩) L C] w fun e w' => ∃ ab ar cr, e = .returned (.tuple #[.slice (some ⟨g, o, none⟩) (4 + m) (4 + m), .slice ab m m, .slice ar r cr, .bool true]) ∧ Row w' ab body ∧ Row w' ar tail ∧ Below w.heap.size w w' := by
  have hlt : g < w.heap.size := by
    have := hR.cellAt 0 (by simp)
    exact lt_of_cell this
  have HB := hide hb
  have HT := hide htl
  have HM := hide hm
  have HR := hide hR
  have hge : 4 + m ≤ L := by omega
  have hr : L - 4 - m = r := by omega
  have HL := hide hr
  clear hb htl hm hR hr hL
  go_enter Try.func12, Try.ntmps12
  go_wp2_with fail
  have hR1 : Row (w.alloc (.cells #[.slice (some ⟨g, o, none⟩) L C] 35)) (some ⟨g, o, none⟩) (t :: x :: y :: z :: (body ++ tail)) := HR.out.later ((Below.refl _ _).alloc (Nat.le_refl _) _)
  have hlen : (t :: x :: y :: z :: (body ++ tail)).length = 4 + (body ++ tail).length := by simp; omega
  have c0 := hR1.cellAt 0 (by omega)
  have c1 := hR1.cellAt 1 (by omega)
  have c2 := hR1.cellAt 2 (by omega)
  have c3 := hR1.cellAt 3 (by omega)
  simp only [Nat.add_zero, List.getD_cons_zero, List.getD_cons_succ] at c0 c1 c2 c3
  have hp : Par (w.alloc (.cells #[.slice (some ⟨g, o, none⟩) L C] 35)) w.heap.size (.slice (some ⟨g, o, none⟩) L C) := by
    unfold Par; exact heap_alloc_new _ _
  refine (message_any w.heap.size g o L C t x y z m _ hp (by omega) hge hLC hC2 c0 c1 c2 c3 hx hy hz HM.out).mono ?_
  rintro e w2 ⟨rfl, hp2, hk⟩
  have hR2 : Row w2 (some ⟨g, o, none⟩) (t :: x :: y :: z :: (body ++ tail)) := hR1.kept hk (by omega)
  have hRb : Row w2 (cutAt (some ⟨g, o + 1, none⟩) 3 (C - 1)) (body ++ tail) := by
    have := (hR2.mid 1).cut 3 (C - 1) (by simp; rw [HB.out, HT.out]; have := HL.out; omega)
    simpa using this
  have hRt : Row w2 (cutAt (cutAt (some ⟨g, o + 1, none⟩) 3 (C - 1)) m (C - 4)) tail := by
    have := hRb.cut m (C - 4) (by simp; rw [HB.out, HT.out]; have := HL.out; omega)
    rw [← HB.out] at this
    rw [← HB.out]
    simpa using this
  have hRb' : Row w2 (cutAt (some ⟨g, o + 1, none⟩) 3 (C - 1)) body := by
    have := hRb.take m
    rw [← HB.out] at this
    simpa using this
  have hBB := below_of_alloc hk
  have hc2 := cell_of_one hp2
  rw [HL.out] at hc2
  obtain ⟨ab, hab⟩ : ∃ ab, ab = cutAt (some ⟨g, o + 1, none⟩) 3 (C - 1) := ⟨_, rfl⟩
  rw [← hab] at hRb hRb' hRt hc2 ⊢
  obtain ⟨ar, har⟩ : ∃ ar, ar = cutAt ab m (C - 4) := ⟨_, rfl⟩
  rw [← har] at hRt hc2
  clear hR1 hR2 hRb hp hp2 hk c0 c1 c2 c3 hlen hab har
  go_wp2
  go_quiet (fail)
  go_wp2
  refine bodyPost_ret (v := .tuple #[.slice (some ⟨g, o, none⟩) (4 + m) (4 + m), .slice ab m m, .slice ar r (C - 4 - m), .bool true]) (by simp [results, Try.results12, go_sem]) rfl ⟨ab, ar, _, rfl, hRb', hRt, below_drewN hBB _⟩

end Go.Proofs.Qxb6605859a
