import Derived.Test.Qxb6605859aBase
namespace Go.Proofs.Qxb6605859a
open Go.ChangeShapes Go.WideShapes Go.ChangeAt Go.RowKit
set_option linter.unusedVariables false

theorem info5' : (Try.prog.info? 5).map (fun i => (i.zero, i.size, i.bytes)) = some (some (.int .u8 0), 1, 1) := info5

set_option maxHeartbeats 1000000 in
theorem exact_no (a0 : Option Addr) (len cap : Nat) (zs : List Int) (n : Int) (w : World) (hz : zs.length = len) (hr : Row w a0 zs) (hnil : a0 = none → len = 0 ∧ cap = 0) (hle : len ≤ 1048576) (hn : (len : Int) < n) :
    Calls Try.prog 5 #[.slice a0 len cap, .int .i64 n] w fun e w' => e = .returned (.bool true) ∧ Below w.heap.size w w' := by
  have heq := fun wx => Lib.run_eql_slice_nil (P := Try.prog) wx 22 5 none 0 0 0 0 Try.underlying22
  have HZ := hide hz
  clear hz
  go_enter Try.func5, Try.ntmps5
  go_wp2_with (go_at_call 13; refine (bytes13_any _ _ _ _ _ (by omega)).mono ?_; rintro e w' ⟨rfl, rfl⟩)
  refine (clone_any a0 len cap zs _ HZ.out hr hnil (by omega)).mono ?_
  rintro e w1 ⟨a1, rfl, hB1, hO1⟩
  go_wp2_with fail
  refine (clone_any a1 len len zs _ HZ.out hO1.row (by rw [← HZ.out]; exact hO1.nil) (by omega)).mono ?_
  rintro e w2 ⟨a2, rfl, hB2, hO2⟩
  go_wp2_with fail
  refine (parserBytes_no a1 len len n _ hn).mono ?_
  rintro e w3 ⟨rfl, hB3⟩
  go_wp2_with fail
  refine (equal_same a1 a2 len len len zs _ HZ.out ((hO1.later hB2).later hB3).row (hO2.later hB3).row (by omega)).mono ?_
  rintro e w4 ⟨rfl, k, rfl⟩
  go_wp2
  go_ret
  exact ⟨rfl, below_drewN ((hB1.trans (hB2.mono hB1.size)).trans (hB3.mono (Nat.le_trans hB1.size hB2.size))) _⟩

theorem owns_slice {w : World} {B n : Nat} {v : Value} {xs : List Value} (h : w.ownsRow B 5 1 v (n + 1) xs) : ∃ g c, v = .slice (some ⟨g, 0, none⟩) (n + 1) c := by
  obtain ⟨h1, h2⟩ := h
  rcases h2 with ⟨_, h2⟩ | ⟨g', cap, cur, hv, _⟩
  · omega
  · exact ⟨g', cap, hv⟩

theorem Own.isSome {w : World} {B : Nat} {ao : Option Addr} {zs : List Int} (h : Own w B ao zs) (hp : 0 < zs.length) : ∃ g, ao = some ⟨g, 0, none⟩ := by
  rcases h with ⟨_, rfl⟩ | ⟨g, rfl, _⟩
  · simp at hp
  · exact ⟨g, rfl⟩

theorem Own.cell {w : World} {B g : Nat} {zs : List Int} (h : Own w B (some ⟨g, 0, none⟩) zs) {i : Nat} (hi : i < zs.length) : w.cell? ⟨g, i, none⟩ = some (.int .u8 (zs.getD i 0)) := by
  rcases h with ⟨h, _⟩ | ⟨g', hg', _, hg⟩
  · simp at h
  · simp at hg'; subst hg'
    simp [World.cell?, hg, hi]

theorem Row.olds {w : World} {b : Addr} {zs : List Int} (hr : Row w (some b) zs) : ∀ j u, (zs.map (Value.int .u8))[j]? = some u → w.cell? (b.add j) = some u := by
  intro j u hj
  obtain ⟨hjl, rfl⟩ := map_get zs j u hj
  rcases hr with h | ⟨bb, off, hx, hc⟩
  · rw [h] at hjl; simp at hjl
  · obtain rfl : b = ⟨bb, off, none⟩ := by simpa using hx
    rw [Go.WideShapes.add_plain]
    exact hc j hjl

theorem parserBytes_mid (g o len cap : Nat) (n : Nat) (w : World) (hlt : n < len) (hlc : len ≤ cap) (hm : cap ≤ 140737488355328) :
    Calls Try.prog 14 #[.slice (some ⟨g, o, none⟩) len cap, .int .i64 n] w fun e w' => e = .returned (.tuple #[.slice (some ⟨g, o, none⟩) n n, .slice (some ⟨g, o + n, none⟩) (len - n) (cap - n), .bool true]) ∧ Below w.heap.size w w' := by
  have h := parserBytes_yes (some ⟨g, o, none⟩) len cap n w (by omega) hlc hm
  have e : cutAt (some ⟨g, o, none⟩) n cap = some ⟨g, o + n, none⟩ := by
    unfold cutAt; rw [if_neg (by omega)]; simp [Addr.add]
  rw [e] at h
  exact h

theorem Row.mid {w : World} {b off : Nat} {zs : List Int} (h : Row w (some ⟨b, off, none⟩) zs) (l : Nat) : Row w (some ⟨b, off + l, none⟩) (zs.drop l) := by
  have := h.cut l (zs.length + l + 1) (by omega)
  unfold cutAt at this
  rw [if_neg (by omega)] at this
  by_cases h0 : l = 0
  · subst h0; simpa [Addr.add] using this
  · simpa [Addr.add, h0] using this

theorem equal_below (a b : Option Addr) (n c1 c2 : Nat) (zs : List Int) (w : World) (hn : zs.length = n) (h1 : Row w a zs) (h2 : Row w b zs) (hm : n ≤ 140737488355328) :
    Calls Try.prog 10 #[.slice a n c1, .slice b n c2] w fun e w' => e = .returned (.bool true) ∧ Below w.heap.size w w' := by
  refine (equal_same a b n c1 c2 zs w hn h1 h2 hm).mono ?_
  rintro e w' ⟨rfl, k, rfl⟩
  exact ⟨rfl, below_drewN (Below.refl _ _) _⟩

set_option maxHeartbeats 1000000 in
theorem exact_all (a0 : Option Addr) (len cap : Nat) (zs : List Int) (w : World) (hz : zs.length = len) (hr : Row w a0 zs) (hnil : a0 = none → len = 0 ∧ cap = 0) (hle : len ≤ 1048576) :
    Calls Try.prog 5 #[.slice a0 len cap, .int .i64 len] w fun e w' => e = .returned (.bool true) ∧ Below w.heap.size w w' := by
  have HZ := hide hz
  clear hz
  go_enter Try.func5, Try.ntmps5
  go_wp2_with (go_at_call 13; refine (bytes13_any _ _ _ _ _ (by omega)).mono ?_; rintro e w' ⟨rfl, rfl⟩)
  refine (clone_any a0 len cap zs _ HZ.out hr hnil (by omega)).mono ?_
  rintro e w1 ⟨a1, rfl, hB1, hO1⟩
  go_wp2_with fail
  refine (clone_any a1 len len zs _ HZ.out hO1.row (by rw [← HZ.out]; exact hO1.nil) (by omega)).mono ?_
  rintro e w2 ⟨a2, rfl, hB2, hO2⟩
  go_wp2_with fail
  refine (parserBytes_yes a1 len len len _ (Nat.le_refl _) (Nat.le_refl _) (by omega)).mono ?_
  rintro e w3 ⟨rfl, hB3⟩
  go_wp2_with fail
  refine (equal_same a1 a2 len len len zs _ HZ.out ((hO1.later hB2).later hB3).row (hO2.later hB3).row (by omega)).mono ?_
  rintro e w4 ⟨rfl, k, rfl⟩
  go_wp2_with fail
  refine (equal_same _ _ 0 _ _ [] _ rfl (.inl rfl) (.inl rfl) (by omega)).mono ?_
  rintro e w5 ⟨rfl, k5, rfl⟩
  go_wp2
  go_ret
  exact ⟨rfl, below_drewN ((hB1.trans (hB2.mono hB1.size)).trans (hB3.mono (Nat.le_trans hB1.size hB2.size))) _⟩

set_option maxHeartbeats 1000000 in
theorem exact_yes (a0 : Option Addr) (len cap : Nat) (zs : List Int) (n : Nat) (w : World) (hz : zs.length = len) (hr : Row w a0 zs) (hnil : a0 = none → len = 0 ∧ cap = 0) (hle : len ≤ 1048576) (hn : n < len) :
    Calls Try.prog 5 #[.slice a0 len cap, .int .i64 n] w fun e w' => e = .returned (.bool true) ∧ Below w.heap.size w w' := by
  obtain ⟨i0, hi, hz0, hz1, hz2⟩ := info_parts info5
  have HZ := hide hz
  clear hz
  go_enter Try.func5, Try.ntmps5
  go_wp2_with (go_at_call 13; refine (bytes13_any _ _ _ _ _ (by omega)).mono ?_; rintro e w' ⟨rfl, rfl⟩)
  refine (clone_any a0 len cap zs _ HZ.out hr hnil (by omega)).mono ?_
  rintro e w1 ⟨a1, rfl, hB1, hO1⟩
  go_wp2_with fail
  refine (clone_any a1 len len zs _ HZ.out hO1.row (by rw [← HZ.out]; exact hO1.nil) (by omega)).mono ?_
  rintro e w2 ⟨a2, rfl, hB2, hO2⟩
  obtain ⟨g1, rfl⟩ := hO1.isSome (by rw [HZ.out]; omega)
  obtain ⟨g2, rfl⟩ := hO2.isSome (by rw [HZ.out]; omega)
  go_wp2_with fail
  refine (parserBytes_mid g1 0 len len n _ hn (Nat.le_refl _) (by omega)).mono ?_
  rintro e w3 ⟨rfl, hB3⟩
  go_wp2_with fail
  have hO1b := (hO1.later hB2).later hB3
  have hO2b := hO2.later hB3
  refine (equal_below _ _ n n len (zs.take n) _ (by rw [List.length_take, HZ.out]; omega) (hO1b.row.take n) (hO2b.row.take n) (by omega)).mono ?_
  rintro e w4 ⟨rfl, hB4⟩
  go_wp2_with fail
  have hO1c := hO1b.later hB4
  have hO2c := hO2b.later hB4
  have hlt : n < zs.length := by rw [HZ.out]; exact hn
  refine (equal_below (some ⟨g1, n, none⟩) (some ⟨g2, n, none⟩) (len - n) (len - n) (len - n) (zs.drop n) _ (by rw [List.length_drop, HZ.out]) (by simpa using hO1c.row.mid n) (by simpa using hO2c.row.mid n) (by omega)).mono ?_
  rintro e w5 ⟨rfl, hB5⟩
  have hO1d := hO1c.later hB5
  have hO2d := hO2c.later hB5
  have hcell : w5.cell? ⟨g2, n, none⟩ = some (.int .u8 (zs.getD n 0)) := hO2d.cell hlt
  have hcell1 : w5.cell? ⟨g1, n, none⟩ = some (.int .u8 (zs.getD n 0)) := hO1d.cell hlt
  have hB : Below w'.heap.size w' w5 := (((hB1.trans (hB2.mono hB1.size)).trans (hB3.mono (Nat.le_trans hB1.size hB2.size))).trans (hB4.mono (Nat.le_trans (Nat.le_trans hB1.size hB2.size) hB3.size))).trans (hB5.mono (Nat.le_trans (Nat.le_trans (Nat.le_trans hB1.size hB2.size) hB3.size) hB4.size))
  obtain ⟨z, hz⟩ : ∃ z, z = zs.getD n 0 := ⟨_, rfl⟩
  rw [← hz] at hcell hcell1
  clear hB1 hB2 hB3 hB4 hB5 hO1 hO2 hO1b hO2b hO1c hO2c hr hz
  go_wp2_with (at_builtin; refine wpList_append_grows _ rfl _ _ 22 rfl 5 i0 (.int .u8 0) 1 1 Try.underlying22 hi hz0 hz1 hz2 rfl (by decide) _ _ _ ((zs.take n).map (Value.int .u8)) rfl (by intro h; cases h) (by rw [List.length_map, List.length_take]; omega) (by intro b hb; cases hb; exact ((hO1d.row.take n).later ((Below.refl _ _).alloc (Nat.le_refl _) _)).olds) ⟨w5.heap.size, 0, none⟩ 1 1 _ rfl rfl (cell_one_new _ _ _) (by intro u hu; simp at hu; subst hu; rfl) (by omega) (by unfold maxLen; omega) (by omega) ?_; intro v' w6 hown hgrow; obtain ⟨g6, c6, rfl⟩ := owns_slice hown)
  have hB6 : Below w5.heap.size w5 w6 := ((Below.refl _ _).alloc (Nat.le_refl _) _).grown hgrow (by simp) (by intro k hk; cases hk)
  have hc6 : w6.cell? ⟨g2, n, none⟩ = some (.int .u8 z) := (hB6.cell (p := ⟨g2, n, none⟩) (lt_of_cell hcell)).trans hcell
  have hc7 : w6.cell? ⟨g1, n, none⟩ = some (.int .u8 z) := (hB6.cell (p := ⟨g1, n, none⟩) (lt_of_cell hcell1)).trans hcell1
  have hB7 : Below w'.heap.size w' w6 := hB.trans (hB6.mono hB.size)
  have hi1 : (n : Int) < (len : Int) := by omega
  have hi2 : (0 : Int) < ((len - n : Nat) : Int) := by omega
  clear hown hgrow hB6 hcell hcell1 hB hO1d hO2d
  go_quiet (fail)
  go_wp2
  go_ret
  exact ⟨rfl, below_drewN hB7 _⟩

theorem exact_any (a0 : Option Addr) (len cap : Nat) (zs : List Int) (n : Int) (w : World) (hz : zs.length = len) (hr : Row w a0 zs) (hnil : a0 = none → len = 0 ∧ cap = 0) (hm : len ≤ maxLen) :
    Calls Try.prog 5 #[.slice a0 len cap, .int .i64 n] w fun e w' => e = .returned (.bool true) ∧ Below w.heap.size w w' := by
  unfold maxLen at hm
  by_cases hle : len ≤ 1048576
  · by_cases hneg : n < 0
    · clear hr hnil
      go_enter Try.func5, Try.ntmps5
      go_wp2_with (go_at_call 13; refine (bytes13_any _ _ _ _ _ (by omega)).mono ?_; rintro e w' ⟨rfl, rfl⟩)
      go_ret
      exact ⟨rfl, Below.refl _ _⟩
    · by_cases hlt : (len : Int) < n
      · exact exact_no a0 len cap zs n w hz hr hnil hle hlt
      · obtain ⟨m, rfl⟩ := Int.eq_ofNat_of_zero_le (show 0 ≤ n from by omega)
        by_cases heq : m = len
        · subst heq
          exact exact_all a0 m cap zs w hz hr hnil hle
        · exact exact_yes a0 len cap zs m w hz hr hnil hle (by omega)
  · clear hr hnil
    go_enter Try.func5, Try.ntmps5
    go_wp2_with (go_at_call 13; refine (bytes13_any _ _ _ _ _ (by omega)).mono ?_; rintro e w' ⟨rfl, rfl⟩)
    go_ret
    exact ⟨rfl, Below.refl _ _⟩

end Go.Proofs.Qxb6605859a
