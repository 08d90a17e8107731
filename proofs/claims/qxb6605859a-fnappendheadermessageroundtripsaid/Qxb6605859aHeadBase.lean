import Derived.Test.Qxb6605859aTwoWalk
namespace Go.Proofs.Qxb6605859a
open Go.ChangeShapes Go.WideShapes Go.ChangeAt Go.RowKit
set_option linter.unusedVariables false

theorem one_cell (x : Int) : ∀ u ∈ [Value.int .u8 x], u.oneCell' = true := by
  intro u hu; simp at hu; subst hu; rfl

theorem own_block_ge {w : World} {B n : Nat} {v : Value} {xs : List Value} (h : w.ownsRow B 5 1 v n xs) : ∀ k, v.ownBlock = some k → B ≤ k := by
  obtain ⟨_, h⟩ := h
  rcases h with ⟨rfl, _⟩ | ⟨g, cap, cur, rfl, hB, _⟩
  · intro k hk; simp [Value.ownBlock] at hk
  · intro k hk; simp [Value.ownBlock] at hk; omega

theorem below_append {w w1 : World} {o : Obj} {B n : Nat} {v : Value} {xs : List Value} (h : w.ownsRow B 5 1 v n xs) (hg : (w.alloc o).grownBy w1 v.ownBlock) (hB : B ≤ w.heap.size) : Below B w w1 :=
  ((Below.refl B w).alloc hB o).grown hg (by simp; omega) (own_block_ge h)

set_option maxRecDepth 100000 in
set_option maxHeartbeats 1000000 in
theorem appendUint3 (B : Nat) (v : Value) (n : Nat) (xs : List Value) (m : Int) (w : World) (hown : w.ownsRow B 5 1 v n xs) (hB : B ≤ w.heap.size) (hn : n ≤ 2097152) :
    Calls Try.prog 19 #[v, .int .i64 3, .int .i64 m] w fun e w' => ∃ v', e = .returned v' ∧ w'.ownsRow B 5 1 v' (n + 3) (xs ++ [.int .u8 (m / 65536 % 256), .int .u8 (m / 256 % 256), .int .u8 (m % 256)]) ∧ Below B w w' := by
  obtain ⟨i0, hi, hz0, hz1, hz2⟩ := info_parts info5
  go_enter Try.func19, Try.ntmps19
  go_wp2
  refine wp_loop_rounds 4 ?_
  rw [rounds_succ]
  go_wp2_with (at_builtin; refine wpList_append_own _ rfl _ _ 22 rfl B 5 i0 (.int .u8 0) 1 1 Try.underlying22 hi hz0 hz1 hz2 rfl (by decide) _ _ _ rfl (hown.alloc _) ⟨w.heap.size, 0, none⟩ 1 1 _ rfl rfl (cell_one_new _ _ _) (one_cell _) (by unfold maxLen; omega) (by omega) (by simp; omega) ?_; intro v1 w1 hown1 hgrow1 _)
  have hB1 := below_append hown hgrow1 hB
  have hsz1 : B ≤ w1.heap.size := Nat.le_trans hB hB1.size
  clear hgrow1 hown
  rw [rounds_succ]
  go_wp2_with (at_builtin; refine wpList_append_own _ rfl _ _ 22 rfl B 5 i0 (.int .u8 0) 1 1 Try.underlying22 hi hz0 hz1 hz2 rfl (by decide) _ _ _ rfl (hown1.alloc _) ⟨w1.heap.size, 0, none⟩ 1 1 _ rfl rfl (cell_one_new _ _ _) (one_cell _) (by unfold maxLen; omega) (by omega) (by simp; omega) ?_; intro v2 w2 hown2 hgrow2 _)
  have hB2 := hB1.trans (below_append hown1 hgrow2 hsz1)
  have hsz2 : B ≤ w2.heap.size := Nat.le_trans hB hB2.size
  clear hgrow2 hown1
  rw [rounds_succ]
  go_wp2_with (at_builtin; refine wpList_append_own _ rfl _ _ 22 rfl B 5 i0 (.int .u8 0) 1 1 Try.underlying22 hi hz0 hz1 hz2 rfl (by decide) _ _ _ rfl (hown2.alloc _) ⟨w2.heap.size, 0, none⟩ 1 1 _ rfl rfl (cell_one_new _ _ _) (one_cell _) (by unfold maxLen; omega) (by omega) (by simp; omega) ?_; intro v3 w3 hown3 hgrow3 _)
  have hB3 := hB2.trans (below_append hown2 hgrow3 hsz2)
  clear hgrow3 hown2
  rw [rounds_succ]
  go_wp2
  go_ret
  refine ⟨_, rfl, ?_, hB3⟩
  simpa using hown3

theorem owns_mono {w : World} {B B' n : Nat} {v : Value} {xs : List Value} (h : w.ownsRow B' 5 1 v n xs) (hB : B ≤ B') : w.ownsRow B 5 1 v n xs := by
  obtain ⟨h1, h⟩ := h
  refine ⟨h1, ?_⟩
  rcases h with h | ⟨g, cap, cur, hv, hg, r⟩
  · exact .inl h
  · exact .inr ⟨g, cap, cur, hv, by omega, r⟩

/-- the header's bytes -/
def hdr (typ m : Int) : List Int := [typ, m / 65536 % 256, m / 256 % 256, m % 256]

set_option maxRecDepth 100000 in
set_option maxHeartbeats 1000000 in
theorem header_any (a1 : Option Addr) (len : Nat) (zs : List Int) (typ m : Int) (w : World) (hz : zs.length = len) (hr : Row w a1 zs) (hnil : a1 = none → len = 0 ∧ len = 0) (hle : len ≤ 1048576) :
    Calls Try.prog 9 #[.slice a1 len len, .int .u8 typ, .int .i64 m] w fun e w' => ∃ v, e = .returned v ∧ w'.ownsRow w.heap.size 5 1 v (len + 4) ((zs ++ hdr typ m).map (Value.int .u8)) ∧ Below w.heap.size w w' := by
  obtain ⟨i0, hi, hz0, hz1, hz2⟩ := info_parts info5
  have HZ := hide hz
  have HN := hide hnil
  clear hz hnil
  go_enter Try.func9, Try.ntmps9
  go_wp2_with fail
  refine Calls.mono (R := fun e w' => ∃ v, e = .returned v ∧ w'.ownsRow w.heap.size 5 1 v (len + 4) ((zs ++ hdr typ m).map (Value.int .u8)) ∧ Below w.heap.size w w') ?_ ?_
  · go_enter Try.func16, Try.ntmps16
    go_wp2_with (at_builtin; refine wpList_append_grows _ rfl _ _ 22 rfl 5 i0 (.int .u8 0) 1 1 Try.underlying22 hi hz0 hz1 hz2 rfl (by decide) _ _ _ (zs.map (Value.int .u8)) rfl HN.out (by rw [List.length_map, HZ.out]; omega) (by intro b hb; subst hb; exact (hr.later ((Below.refl _ _).alloc (Nat.le_refl _) _)).olds) ⟨w.heap.size, 0, none⟩ 1 1 _ rfl rfl (cell_one_new _ _ _) (one_cell _) (by omega) (by unfold maxLen; omega) (by omega) ?_; intro v1 w1 hown hgrow)
    have hB1 : Below w.heap.size w w1 := ((Below.refl _ _).alloc (Nat.le_refl _) _).grown hgrow (by simp) (by intro k hk; cases hk)
    have hown1 := owns_mono (B := w.heap.size) hown (by simp)
    clear hown hgrow hr
    refine (appendUint3 w.heap.size v1 (len + 1) _ m w1 hown1 hB1.size (by omega)).mono ?_
    rintro e w2 ⟨v2, rfl, hown2, hB2⟩
    go_wp2
    go_ret
    refine ⟨_, rfl, ?_, hB1.trans hB2⟩
    simpa [hdr] using hown2
  · rintro e w2 ⟨v2, rfl, hown2, hB2⟩
    go_wp2
    go_ret
    exact ⟨_, rfl, hown2, hB2⟩

end Go.Proofs.Qxb6605859a
