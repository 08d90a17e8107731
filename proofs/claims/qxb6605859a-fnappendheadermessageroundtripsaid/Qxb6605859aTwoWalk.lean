import Derived.Test.Qxb6605859aBytesWalk
namespace Go.Proofs.Qxb6605859a
open Go.ChangeShapes Go.WideShapes Go.ChangeAt Go.RowKit
set_option linter.unusedVariables false

theorem below_then {A B C : World} (h : Below A.heap.size A B) (k : Below B.heap.size B C) : Below A.heap.size A C := h.trans (k.mono h.size)

theorem equal_two (a b : Option Addr) (n m c1 c2 : Nat) (zs : List Int) (w : World) (hn : zs.length = n) (hm : zs.length = m) (h1 : Row w a zs) (h2 : Row w b zs) (hb : n ≤ 140737488355328) :
    Calls Try.prog 10 #[.slice a n c1, .slice b m c2] w fun e w' => e = .returned (.bool true) ∧ Below w.heap.size w w' := by
  obtain rfl : n = m := hn.symm.trans hm
  exact equal_below a b n c1 c2 zs w hn h1 h2 hb

theorem Row.cast {w : World} {ao : Option Addr} {xs ys : List Int} (h : Row w ao xs) (e : xs = ys) : Row w ao ys := e ▸ h

set_option maxRecDepth 100000 in
set_option maxHeartbeats 1000000 in
theorem two_a (a0 : Option Addr) (len cap : Nat) (zs : List Int) (n1 n2 : Int) (w : World) (hz : zs.length = len) (hr : Row w a0 zs) (hnil : a0 = none → len = 0 ∧ cap = 0) (hle : len ≤ 1048576) (hn : (len : Int) < n1) (hn2 : 0 ≤ n2) :
    Calls Try.prog 6 #[.slice a0 len cap, .int .i64 n1, .int .i64 n2] w fun e w' => e = .returned (.bool true) ∧ Below w.heap.size w w' := by
  have heq := fun wx => Lib.run_eql_slice_nil (P := Try.prog) wx 22 5 none 0 0 0 0 Try.underlying22
  have HZ := hide hz
  have hN := hide hnil
  clear hz hnil
  go_enter Try.func6, Try.ntmps6
  go_wp2_with (go_at_call 15; refine (bytes15_any _ _ _ _ _ _ (by omega)).mono ?_; rintro e w' ⟨rfl, rfl⟩)
  refine (clone_any a0 len cap zs _ HZ.out hr hN.out (by omega)).mono ?_
  rintro e w1 ⟨a1, rfl, hB1, hO1⟩
  go_wp2_with fail
  refine (clone_any a1 len len zs _ HZ.out hO1.row (by rw [← HZ.out]; exact hO1.nil) (by omega)).mono ?_
  rintro e w2 ⟨a2, rfl, hB2, hO2⟩
  replace hO1 := hO1.later hB2
  replace hB1 := below_then hB1 hB2
  clear hB2 hr
  go_wp2_with fail
  refine (clone_any a1 len len zs _ HZ.out hO1.row (by rw [← HZ.out]; exact hO1.nil) (by omega)).mono ?_
  rintro e w3 ⟨a3, rfl, hB3, hO3⟩
  replace hO1 := hO1.later hB3
  replace hO2 := hO2.later hB3
  replace hB1 := below_then hB1 hB3
  clear hB3
  go_wp2_with fail
  refine (parserBytes_no a1 len len n1 _ hn).mono ?_
  rintro e w4 ⟨rfl, hB4⟩
  replace hO1 := hO1.later hB4
  replace hO2 := hO2.later hB4
  replace hB1 := below_then hB1 hB4
  clear hB4
  go_wp2_with fail
  refine (equal_below a1 a2 len len len zs _ HZ.out hO1.row hO2.row (by omega)).mono ?_
  rintro e w5 ⟨rfl, hB5⟩
  replace hB1 := below_then hB1 hB5
  go_wp2
  go_ret
  exact ⟨rfl, hB1⟩

set_option maxRecDepth 100000 in
set_option maxHeartbeats 1000000 in
theorem two_b1 (a0 : Option Addr) (len cap : Nat) (zs : List Int) (n2 : Int) (w : World) (hz : zs.length = len) (hr : Row w a0 zs) (hnil : a0 = none → len = 0 ∧ cap = 0) (hle : len ≤ 1048576) (hn2 : 0 < n2) :
    Calls Try.prog 6 #[.slice a0 len cap, .int .i64 len, .int .i64 n2] w fun e w' => e = .returned (.bool true) ∧ Below w.heap.size w w' := by
  have heq := fun wx => Lib.run_eql_slice_nil (P := Try.prog) wx 22 5 none 0 0 0 0 Try.underlying22
  have hd2 : decide (n2 ≤ 0) = false := by simp; omega
  have HZ := hide hz
  have hN := hide hnil
  clear hz hnil
  go_enter Try.func6, Try.ntmps6
  go_wp2_with (go_at_call 15; refine (bytes15_any _ _ _ _ _ _ (by omega)).mono ?_; rintro e w' ⟨rfl, rfl⟩)
  refine (clone_any a0 len cap zs _ HZ.out hr hN.out (by omega)).mono ?_
  rintro e w1 ⟨a1, rfl, hB1, hO1⟩
  go_wp2_with fail
  refine (clone_any a1 len len zs _ HZ.out hO1.row (by rw [← HZ.out]; exact hO1.nil) (by omega)).mono ?_
  rintro e w2 ⟨a2, rfl, hB2, hO2⟩
  replace hO1 := hO1.later hB2
  replace hB1 := below_then hB1 hB2
  clear hB2 hr
  go_wp2_with fail
  refine (clone_any a1 len len zs _ HZ.out hO1.row (by rw [← HZ.out]; exact hO1.nil) (by omega)).mono ?_
  rintro e w3 ⟨a3, rfl, hB3, hO3⟩
  replace hO1 := hO1.later hB3
  replace hO2 := hO2.later hB3
  replace hB1 := below_then hB1 hB3
  clear hB3
  go_wp2_with fail
  refine (parserBytes_yes a1 len len len _ (Nat.le_refl _) (Nat.le_refl _) (by omega)).mono ?_
  rintro e w4 ⟨rfl, hB4⟩
  replace hO1 := hO1.later hB4
  replace hO2 := hO2.later hB4
  replace hB1 := below_then hB1 hB4
  clear hB4
  go_wp2_with fail
  refine (equal_below a1 a2 len len len zs _ HZ.out hO1.row hO2.row (by omega)).mono ?_
  rintro e w5 ⟨rfl, hB5⟩
  replace hB1 := below_then hB1 hB5
  go_wp2_with fail
  refine (parserBytes_no _ 0 0 n2 _ (by simpa using hn2)).mono ?_
  rintro e w6 ⟨rfl, hB6⟩
  replace hB1 := below_then hB1 hB6
  go_wp2_with fail
  refine (equal_below _ _ 0 _ _ [] _ rfl (.inl rfl) (.inl rfl) (by omega)).mono ?_
  rintro e w7 ⟨rfl, hB7⟩
  replace hB1 := below_then hB1 hB7
  go_wp2
  go_ret
  exact ⟨rfl, hB1⟩

set_option maxRecDepth 100000 in
set_option maxHeartbeats 1000000 in
theorem two_b2 (a0 : Option Addr) (len cap : Nat) (zs : List Int) (n1 : Nat) (n2 : Int) (w : World) (hz : zs.length = len) (hr : Row w a0 zs) (hnil : a0 = none → len = 0 ∧ cap = 0) (hle : len ≤ 1048576) (hn1 : n1 < len) (hn2 : (len : Int) - n1 < n2) :
    Calls Try.prog 6 #[.slice a0 len cap, .int .i64 n1, .int .i64 n2] w fun e w' => e = .returned (.bool true) ∧ Below w.heap.size w w' := by
  have heq := fun wx => Lib.run_eql_slice_nil (P := Try.prog) wx 22 5 none 0 0 0 0 Try.underlying22
  have HZ := hide hz
  have hN := hide hnil
  have hn2' : 0 < n2 := by omega
  have hle1 : n1 ≤ len := by omega
  have hd2 : decide (n2 ≤ (len : Int) - (n1 : Int)) = false := by simp; omega
  clear hz hnil
  go_enter Try.func6, Try.ntmps6
  go_wp2_with (go_at_call 15; refine (bytes15_any _ _ _ _ _ _ (by omega)).mono ?_; rintro e w' ⟨rfl, rfl⟩)
  refine (clone_any a0 len cap zs _ HZ.out hr hN.out (by omega)).mono ?_
  rintro e w1 ⟨a1, rfl, hB1, hO1⟩
  obtain ⟨g1, rfl⟩ := hO1.isSome (by rw [HZ.out]; omega)
  go_wp2_with fail
  refine (clone_any _ len len zs _ HZ.out hO1.row (by rw [← HZ.out]; exact hO1.nil) (by omega)).mono ?_
  rintro e w2 ⟨a2, rfl, hB2, hO2⟩
  obtain ⟨g2, rfl⟩ := hO2.isSome (by rw [HZ.out]; omega)
  replace hO1 := hO1.later hB2
  replace hB1 := below_then hB1 hB2
  clear hB2 hr
  go_wp2_with fail
  refine (clone_any _ len len zs _ HZ.out hO1.row (by rw [← HZ.out]; exact hO1.nil) (by omega)).mono ?_
  rintro e w3 ⟨a3, rfl, hB3, hO3⟩
  replace hO1 := hO1.later hB3
  replace hO2 := hO2.later hB3
  replace hB1 := below_then hB1 hB3
  clear hB3
  go_wp2_with fail
  refine (parserBytes_mid g1 0 len len n1 _ hn1 (Nat.le_refl _) (by omega)).mono ?_
  rintro e w4 ⟨rfl, hB4⟩
  replace hO1 := hO1.later hB4
  replace hO2 := hO2.later hB4
  replace hB1 := below_then hB1 hB4
  clear hB4
  go_wp2_with fail
  refine (equal_below _ _ n1 n1 len (zs.take n1) _ (by rw [List.length_take, HZ.out]; omega) (hO1.row.take n1) (hO2.row.take n1) (by omega)).mono ?_
  rintro e w5 ⟨rfl, hB5⟩
  replace hO1 := hO1.later hB5
  replace hO2 := hO2.later hB5
  replace hB1 := below_then hB1 hB5
  clear hB5
  go_wp2_with fail
  refine (parserBytes_no _ (len - n1) (len - n1) n2 _ (by omega)).mono ?_
  rintro e w6 ⟨rfl, hB6⟩
  replace hO1 := hO1.later hB6
  replace hO2 := hO2.later hB6
  replace hB1 := below_then hB1 hB6
  clear hB6
  go_wp2_with fail
  refine (equal_below (some ⟨g1, n1, none⟩) (some ⟨g2, n1, none⟩) (len - n1) (len - n1) (len - n1) (zs.drop n1) _ (by rw [List.length_drop, HZ.out]) (by simpa using hO1.row.mid n1) (by simpa using hO2.row.mid n1) (by omega)).mono ?_
  rintro e w7 ⟨rfl, hB7⟩
  replace hB1 := below_then hB1 hB7
  go_wp2
  go_ret
  exact ⟨rfl, hB1⟩

set_option maxRecDepth 100000 in
set_option maxHeartbeats 1000000 in
theorem two_c1 (a0 : Option Addr) (len cap : Nat) (zs : List Int) (n1 : Nat) (w : World) (hz : zs.length = len) (hr : Row w a0 zs) (hnil : a0 = none → len = 0 ∧ cap = 0) (hle : len ≤ 1048576) (hn1 : n1 ≤ len) :
    Calls Try.prog 6 #[.slice a0 len cap, .int .i64 n1, .int .i64 0] w fun e w' => e = .returned (.bool true) ∧ Below w.heap.size w w' := by
  have HZ := hide hz
  have hN := hide hnil
  have hd2 : decide ((0 : Int) ≤ (len : Int) - (n1 : Int)) = true := by simp; omega
  clear hz hnil
  go_enter Try.func6, Try.ntmps6
  go_wp2_with (go_at_call 15; refine (bytes15_any _ _ _ _ _ _ (by omega)).mono ?_; rintro e w' ⟨rfl, rfl⟩)
  refine (clone_any a0 len cap zs _ HZ.out hr hN.out (by omega)).mono ?_
  rintro e w1 ⟨a1, rfl, hB1, hO1⟩
  go_wp2_with fail
  refine (clone_any _ len len zs _ HZ.out hO1.row (by rw [← HZ.out]; exact hO1.nil) (by omega)).mono ?_
  rintro e w2 ⟨a2, rfl, hB2, hO2⟩
  replace hO1 := hO1.later hB2
  replace hB1 := below_then hB1 hB2
  clear hB2 hr
  go_wp2_with fail
  refine (clone_any _ len len zs _ HZ.out hO1.row (by rw [← HZ.out]; exact hO1.nil) (by omega)).mono ?_
  rintro e w3 ⟨a3, rfl, hB3, hO3⟩
  replace hO1 := hO1.later hB3
  replace hO2 := hO2.later hB3
  replace hB1 := below_then hB1 hB3
  clear hB3
  go_wp2_with fail
  refine (parserBytes_yes a1 len len n1 _ hn1 (Nat.le_refl _) (by omega)).mono ?_
  rintro e w4 ⟨rfl, hB4⟩
  replace hO1 := hO1.later hB4
  replace hO2 := hO2.later hB4
  replace hO3 := hO3.later hB4
  replace hB1 := below_then hB1 hB4
  clear hB4
  go_wp2_with fail
  refine (equal_below _ _ n1 n1 len (zs.take n1) _ (by rw [List.length_take, HZ.out]; omega) (hO1.row.take n1) (hO2.row.take n1) (by omega)).mono ?_
  rintro e w5 ⟨rfl, hB5⟩
  replace hO1 := hO1.later hB5
  replace hO2 := hO2.later hB5
  replace hO3 := hO3.later hB5
  replace hB1 := below_then hB1 hB5
  clear hB5
  go_wp2_with fail
  refine (parserBytes_yes (cutAt a1 n1 len) (len - n1) (len - n1) 0 _ (by omega) (Nat.le_refl _) (by omega)).mono ?_
  rintro e w6 ⟨rfl, hB6⟩
  replace hO1 := hO1.later hB6
  replace hO2 := hO2.later hB6
  replace hO3 := hO3.later hB6
  replace hB1 := below_then hB1 hB6
  clear hB6
  go_wp2_with fail
  refine (parserBytes_yes a3 len len n1 _ (by omega) (Nat.le_refl _) (by omega)).mono ?_
  rintro e w7 ⟨rfl, hB7⟩
  replace hO1 := hO1.later hB7
  replace hO2 := hO2.later hB7
  replace hO3 := hO3.later hB7
  replace hB1 := below_then hB1 hB7
  clear hB7
  go_wp2_with fail
  refine (equal_two _ _ _ _ _ _ (zs.take n1) _ (by rw [List.length_take, HZ.out]; omega) (by rw [List.length_take, HZ.out]; omega) (hO1.row.take n1) (hO3.row.take n1) (by omega)).mono ?_
  rintro e w8 ⟨rfl, hB8⟩
  replace hO1 := hO1.later hB8
  replace hO2 := hO2.later hB8
  replace hO3 := hO3.later hB8
  replace hB1 := below_then hB1 hB8
  clear hB8
  go_wp2_with fail
  refine (equal_two _ _ 0 _ _ _ [] _ rfl (by simp) (.inl rfl) (.inl rfl) (by omega)).mono ?_
  rintro e w9 ⟨rfl, hB9⟩
  replace hO1 := hO1.later hB9
  replace hO2 := hO2.later hB9
  replace hO3 := hO3.later hB9
  replace hB1 := below_then hB1 hB9
  clear hB9
  go_wp2_with fail
  have hmid := hO1.row.cut n1 len (by rw [HZ.out]; omega)
  refine (equal_two _ _ _ _ _ _ (zs.drop n1) _ (by rw [List.length_drop, HZ.out]) (by rw [List.length_drop, HZ.out]) ((hmid.cut 0 (len - n1) (by rw [List.length_drop, HZ.out]; omega)).cast (by simp)) (hO3.row.cut n1 len (by rw [HZ.out]; omega)) (by omega)).mono ?_
  rintro e w10 ⟨rfl, hB10⟩
  replace hO1 := hO1.later hB10
  replace hO2 := hO2.later hB10
  replace hO3 := hO3.later hB10
  replace hB1 := below_then hB1 hB10
  clear hB10 hmid
  go_wp2_with fail
  refine (equal_two _ _ _ _ _ _ (zs.take n1) _ (by rw [List.length_take, HZ.out]; omega) (by rw [List.length_take, HZ.out]; omega) (hO3.row.take n1) (hO2.row.take n1) (by omega)).mono ?_
  rintro e w11 ⟨rfl, hB11⟩
  replace hB1 := below_then hB1 hB11
  go_wp2
  go_ret
  exact ⟨rfl, hB1⟩

set_option maxRecDepth 100000 in
set_option maxHeartbeats 1000000 in
theorem two_c2 (a0 : Option Addr) (len cap : Nat) (zs : List Int) (n1 n2 : Nat) (w : World) (hz : zs.length = len) (hr : Row w a0 zs) (hnil : a0 = none → len = 0 ∧ cap = 0) (hle : len ≤ 1048576) (hn1 : n1 < len) (hn2 : 0 < n2) (hn12 : n1 + n2 ≤ len) :
    Calls Try.prog 6 #[.slice a0 len cap, .int .i64 n1, .int .i64 n2] w fun e w' => e = .returned (.bool true) ∧ Below w.heap.size w w' := by
  have HZ := hide hz
  have hN := hide hnil
  have hle1 : n1 ≤ len := by omega
  have hd2 : decide ((n2 : Int) ≤ (len : Int) - (n1 : Int)) = true := by simp; omega
  clear hz hnil
  go_enter Try.func6, Try.ntmps6
  go_wp2_with (go_at_call 15; refine (bytes15_any _ _ _ _ _ _ (by omega)).mono ?_; rintro e w' ⟨rfl, rfl⟩)
  refine (clone_any a0 len cap zs _ HZ.out hr hN.out (by omega)).mono ?_
  rintro e w1 ⟨a1, rfl, hB1, hO1⟩
  obtain ⟨g1, rfl⟩ := hO1.isSome (by rw [HZ.out]; omega)
  go_wp2_with fail
  refine (clone_any _ len len zs _ HZ.out hO1.row (by rw [← HZ.out]; exact hO1.nil) (by omega)).mono ?_
  rintro e w2 ⟨a2, rfl, hB2, hO2⟩
  obtain ⟨g2, rfl⟩ := hO2.isSome (by rw [HZ.out]; omega)
  replace hO1 := hO1.later hB2
  replace hB1 := below_then hB1 hB2
  clear hB2 hr
  go_wp2_with fail
  refine (clone_any _ len len zs _ HZ.out hO1.row (by rw [← HZ.out]; exact hO1.nil) (by omega)).mono ?_
  rintro e w3 ⟨a3, rfl, hB3, hO3⟩
  obtain ⟨g3, rfl⟩ := hO3.isSome (by rw [HZ.out]; omega)
  replace hO1 := hO1.later hB3
  replace hO2 := hO2.later hB3
  replace hB1 := below_then hB1 hB3
  clear hB3
  go_wp2_with fail
  refine (parserBytes_mid g1 0 len len n1 _ hn1 (Nat.le_refl _) (by omega)).mono ?_
  rintro e w4 ⟨rfl, hB4⟩
  replace hO1 := hO1.later hB4
  replace hO2 := hO2.later hB4
  replace hO3 := hO3.later hB4
  replace hB1 := below_then hB1 hB4
  clear hB4
  go_wp2_with fail
  refine (equal_below _ _ n1 n1 len (zs.take n1) _ (by rw [List.length_take, HZ.out]; omega) (hO1.row.take n1) (hO2.row.take n1) (by omega)).mono ?_
  rintro e w5 ⟨rfl, hB5⟩
  replace hO1 := hO1.later hB5
  replace hO2 := hO2.later hB5
  replace hO3 := hO3.later hB5
  replace hB1 := below_then hB1 hB5
  clear hB5
  go_wp2_with fail
  refine (parserBytes_yes (some ⟨g1, n1, none⟩) (len - n1) (len - n1) n2 _ (by omega) (Nat.le_refl _) (by omega)).mono ?_
  rintro e w6 ⟨rfl, hB6⟩
  replace hO1 := hO1.later hB6
  replace hO2 := hO2.later hB6
  replace hO3 := hO3.later hB6
  replace hB1 := below_then hB1 hB6
  clear hB6
  go_wp2_with fail
  rw [show ((n1 : Int) + (n2 : Int)) = ((n1 + n2 : Nat) : Int) from by omega]
  refine (parserBytes_yes (some ⟨g3, 0, none⟩) len len (n1 + n2) _ (by omega) (Nat.le_refl _) (by omega)).mono ?_
  rintro e w7 ⟨rfl, hB7⟩
  replace hO1 := hO1.later hB7
  replace hO2 := hO2.later hB7
  replace hO3 := hO3.later hB7
  replace hB1 := below_then hB1 hB7
  clear hB7
  go_wp2_with fail
  refine (equal_two _ _ _ _ _ _ (zs.take n1) _ (by rw [List.length_take, HZ.out]; omega) (by rw [List.length_take, HZ.out]; omega) (hO1.row.take n1) (hO3.row.take n1) (by omega)).mono ?_
  rintro e w8 ⟨rfl, hB8⟩
  replace hO1 := hO1.later hB8
  replace hO2 := hO2.later hB8
  replace hO3 := hO3.later hB8
  replace hB1 := below_then hB1 hB8
  clear hB8
  go_wp2_with fail
  refine (equal_two (some ⟨g1, n1, none⟩) (some ⟨g3, n1, none⟩) _ _ _ _ ((zs.drop n1).take n2) _ (by rw [List.length_take, List.length_drop, HZ.out]; omega) (by rw [List.length_take, List.length_drop, HZ.out]; omega) (by simpa using (hO1.row.mid n1).take n2) (by simpa using (hO3.row.mid n1).take n2) (by omega)).mono ?_
  rintro e w9 ⟨rfl, hB9⟩
  replace hO1 := hO1.later hB9
  replace hO2 := hO2.later hB9
  replace hO3 := hO3.later hB9
  replace hB1 := below_then hB1 hB9
  clear hB9
  go_wp2_with fail
  have hmid : Row w9 (some ⟨g1, n1, none⟩) (zs.drop n1) := by simpa using hO1.row.mid n1
  refine (equal_two _ _ _ _ _ _ (zs.drop (n1 + n2)) _ (by rw [List.length_drop, HZ.out]; omega) (by rw [List.length_drop, HZ.out]) ((hmid.cut n2 (len - n1) (by rw [List.length_drop, HZ.out]; omega)).cast (by rw [List.drop_drop])) (hO3.row.cut (n1 + n2) len (by rw [HZ.out]; omega)) (by omega)).mono ?_
  rintro e w10 ⟨rfl, hB10⟩
  replace hO1 := hO1.later hB10
  replace hO2 := hO2.later hB10
  replace hO3 := hO3.later hB10
  replace hB1 := below_then hB1 hB10
  clear hB10 hmid
  go_wp2_with fail
  refine (equal_two _ _ _ _ _ _ (zs.take (n1 + n2)) _ (by rw [List.length_take, HZ.out]; omega) (by rw [List.length_take, HZ.out]; omega) (hO3.row.take (n1 + n2)) (hO2.row.take (n1 + n2)) (by omega)).mono ?_
  rintro e w11 ⟨rfl, hB11⟩
  replace hB1 := below_then hB1 hB11
  go_wp2
  go_ret
  exact ⟨rfl, hB1⟩

theorem two_any (a0 : Option Addr) (len cap : Nat) (zs : List Int) (n1 n2 : Int) (w : World) (hz : zs.length = len) (hr : Row w a0 zs) (hnil : a0 = none → len = 0 ∧ cap = 0) (hm : len ≤ maxLen) :
    Calls Try.prog 6 #[.slice a0 len cap, .int .i64 n1, .int .i64 n2] w fun e w' => e = .returned (.bool true) ∧ Below w.heap.size w w' := by
  unfold maxLen at hm
  by_cases hle : len ≤ 1048576
  · by_cases hneg : n1 < 0
    · clear hr hnil
      go_enter Try.func6, Try.ntmps6
      go_wp2_with (go_at_call 15; refine (bytes15_any _ _ _ _ _ _ (by omega)).mono ?_; rintro e w' ⟨rfl, rfl⟩)
      go_ret
      exact ⟨rfl, Below.refl _ _⟩
    · by_cases hneg2 : n2 < 0
      · clear hr hnil
        go_enter Try.func6, Try.ntmps6
        go_wp2_with (go_at_call 15; refine (bytes15_any _ _ _ _ _ _ (by omega)).mono ?_; rintro e w' ⟨rfl, rfl⟩)
        go_ret
        exact ⟨rfl, Below.refl _ _⟩
      · by_cases hlt : (len : Int) < n1
        · exact two_a a0 len cap zs n1 n2 w hz hr hnil hle hlt (by omega)
        · obtain ⟨m1, rfl⟩ := Int.eq_ofNat_of_zero_le (show 0 ≤ n1 from by omega)
          obtain ⟨m2, rfl⟩ := Int.eq_ofNat_of_zero_le (show 0 ≤ n2 from by omega)
          by_cases h2 : m2 = 0
          · subst h2
            exact two_c1 a0 len cap zs m1 w hz hr hnil hle (by omega)
          · by_cases heq : m1 = len
            · subst heq
              exact two_b1 a0 m1 cap zs m2 w hz hr hnil hle (by omega)
            · by_cases hf : m1 + m2 ≤ len
              · exact two_c2 a0 len cap zs m1 m2 w hz hr hnil hle (by omega) (by omega) hf
              · exact two_b2 a0 len cap zs m1 m2 w hz hr hnil hle (by omega) (by omega)
  · clear hr hnil
    go_enter Try.func6, Try.ntmps6
    go_wp2_with (go_at_call 15; refine (bytes15_any _ _ _ _ _ _ (by omega)).mono ?_; rintro e w' ⟨rfl, rfl⟩)
    go_ret
    exact ⟨rfl, Below.refl _ _⟩

end Go.Proofs.Qxb6605859a
