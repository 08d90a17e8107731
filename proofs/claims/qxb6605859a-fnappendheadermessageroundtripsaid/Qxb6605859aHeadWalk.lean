import Derived.Test.Qxb6605859aHeadBase
import Derived.Test.Qxb6605859aBits
namespace Go.Proofs.Qxb6605859a
open Go.ChangeShapes Go.WideShapes Go.ChangeAt Go.RowKit
set_option linter.unusedVariables false

theorem bytes7_any (ao : Option Addr) (len cap : Nat) (t n : Int) (w : World) (hm : len ≤ 9223372036854775807) :
    Calls Try.prog 7 #[.slice ao len cap, .int .u8 t, .int .i64 n] w fun e w' => e = .returned (.bool (decide (len ≤ 1048576))) ∧ w' = w := by
  by_cases h : len ≤ 1048576
  · rw [decide_eq_true h]
    go_enter Try.func7, Try.ntmps7
    go_wp2
    go_ret
    exact ⟨rfl, rfl⟩
  · rw [decide_eq_false h]
    go_enter Try.func7, Try.ntmps7
    go_wp2
    go_ret
    exact ⟨rfl, rfl⟩

theorem owns_open {w : World} {B n : Nat} {v : Value} {ys : List Int} (h : w.ownsRow B 5 1 v n (ys.map (Value.int .u8))) (hp : 0 < n) :
    ∃ g c, v = .slice (some ⟨g, 0, none⟩) n c ∧ n ≤ c ∧ c ≤ maxLen ∧ ys.length = n ∧ Row w (some ⟨g, 0, none⟩) ys := by
  obtain ⟨h1, h⟩ := h
  simp at h1
  rcases h with ⟨_, h⟩ | ⟨g, cap, cur, rfl, hB, hg, hc, hm, hs, ht⟩
  · omega
  · refine ⟨g, cap, rfl, hc, hm, h1, .inr ⟨g, 0, rfl, fun i hi => ?_⟩⟩
    have e : cur.toList[i]? = some (.int .u8 (ys.getD i 0)) := by
      have h2 : (cur.toList.take (n * 1))[i]? = (ys.map (Value.int .u8))[i]? := by rw [ht]
      rw [List.getElem?_take, if_pos (by omega)] at h2
      rw [h2]
      simp [hi]
    have e2 : cur[i]? = some (.int .u8 (ys.getD i 0)) := by simpa using e
    simp only [World.cell?, hg]
    simpa using e2

theorem Row.cellAt {w : World} {g o : Nat} {ys : List Int} (h : Row w (some ⟨g, o, none⟩) ys) (i : Nat) (hi : i < ys.length) : w.cell? ⟨g, o + i, none⟩ = some (.int .u8 (ys.getD i 0)) := by
  rcases h with rfl | ⟨b, off, hx, hc⟩
  · simp at hi
  · simp at hx; obtain ⟨rfl, rfl⟩ := hx
    exact hc i hi

set_option maxRecDepth 100000 in
set_option maxHeartbeats 1000000 in
theorem head_main (a0 : Option Addr) (len cap : Nat) (zs : List Int) (typ n : Int) (w : World) (hz : zs.length = len) (hr : Row w a0 zs) (hnil : a0 = none → len = 0 ∧ cap = 0) (hle : len ≤ 1048576) :
    Calls Try.prog 3 #[.slice a0 len cap, .int .u8 typ, .int .i64 n] w fun e w' => e = .returned (.bool true) ∧ Below w.heap.size w w' := by
  have HZ := hide hz
  have hN := hide hnil
  clear hz hnil
  go_enter Try.func3, Try.ntmps3
  go_wp2_with (go_at_call 7; refine (bytes7_any _ _ _ _ _ _ (by omega)).mono ?_; rintro e w' ⟨rfl, rfl⟩)
  refine (clone_any a0 len cap zs _ HZ.out hr hN.out (by omega)).mono ?_
  rintro e w1 ⟨a1, rfl, hB1, hO1⟩
  go_wp2_with fail
  refine (clone_any a1 len len zs _ HZ.out hO1.row (by rw [← HZ.out]; exact hO1.nil) (by omega)).mono ?_
  rintro e w2 ⟨a2, rfl, hB2, hO2⟩
  replace hO1 := hO1.later hB2
  replace hB1 := below_then hB1 hB2
  clear hB2 hr
  go_wp2_with fail
  refine (header_any a1 len zs typ n _ HZ.out hO1.row (by rw [← HZ.out]; exact hO1.nil) hle).mono ?_
  rintro e w3 ⟨v, rfl, hown, hB3⟩
  replace hO1 := hO1.later hB3
  replace hO2 := hO2.later hB3
  replace hB1 := below_then hB1 hB3
  clear hB3
  obtain ⟨g, c, rfl, hc1, hc2, hl, hR⟩ := owns_open hown (by omega)
  unfold maxLen at hc2
  clear hown
  have HL := hide hl
  clear hl
  go_wp2_with fail
  refine (equal_below _ _ len _ _ zs _ HZ.out ((hR.take len).cast (by rw [← HZ.out]; simp)) hO2.row (by omega)).mono ?_
  rintro e w4 ⟨rfl, hB4⟩
  replace hR := hR.later hB4
  replace hO1 := hO1.later hB4
  replace hO2 := hO2.later hB4
  replace hB1 := below_then hB1 hB4
  clear hB4
  go_wp2_with fail
  refine (equal_below _ _ len _ _ zs _ HZ.out hO1.row hO2.row (by omega)).mono ?_
  rintro e w5 ⟨rfl, hB5⟩
  replace hR := hR.later hB5
  replace hB1 := below_then hB1 hB5
  have hlen : (zs ++ hdr typ n).length = len + 4 := HL.out
  have c0 : w5.cell? ⟨g, len, none⟩ = some (.int .u8 typ) := by
    have := hR.cellAt len (by omega); rw [Nat.zero_add] at this; rw [this, ← HZ.out]; simp [hdr]
  have c1 : w5.cell? ⟨g, len + 1, none⟩ = some (.int .u8 (n / 65536 % 256)) := by
    have := hR.cellAt (len + 1) (by omega); rw [Nat.zero_add] at this; rw [this, ← HZ.out]; simp [hdr]
  have c2 : w5.cell? ⟨g, len + 2, none⟩ = some (.int .u8 (n / 256 % 256)) := by
    have := hR.cellAt (len + 2) (by omega); rw [Nat.zero_add] at this; rw [this, ← HZ.out]; simp [hdr]
  have c3 : w5.cell? ⟨g, len + 3, none⟩ = some (.int .u8 (n % 256)) := by
    have := hR.cellAt (len + 3) (by omega); rw [Nat.zero_add] at this; rw [this, ← HZ.out]; simp [hdr]
  clear hR hlen hB5 hO1 hO2
  go_wp2
  obtain ⟨x, hx⟩ : ∃ x, x = n / 65536 % 256 := ⟨_, rfl⟩
  obtain ⟨y, hy⟩ : ∃ y, y = n / 256 % 256 := ⟨_, rfl⟩
  obtain ⟨z, hzz⟩ : ∃ z, z = n % 256 := ⟨_, rfl⟩
  rw [← hx] at c1
  rw [← hy] at c2
  rw [← hzz] at c3
  have bx : 0 ≤ x ∧ x ≤ 255 := by omega
  have byy : 0 ≤ y ∧ y ≤ 255 := by omega
  have bz : 0 ≤ z ∧ z ≤ 255 := by omega
  have HX := hide hx
  have HY := hide hy
  have HQ := hide hzz
  clear hx hy hzz
  have j1 : (len : Int) + 1 < (len : Int) + 4 := by omega
  have j2 : (len : Int) + 2 < (len : Int) + 4 := by omega
  have j3 : (len : Int) + 3 < (len : Int) + 4 := by omega
  go_quiet (fail)
  go_wp2
  go_ret
  refine ⟨?_, below_drewN hB1 _⟩
  exact congrArg (fun b : Bool => Ending.returned (.bool b)) (got_is n x y z HX.out HY.out HQ.out)

theorem head_any (a0 : Option Addr) (len cap : Nat) (zs : List Int) (typ n : Int) (w : World) (hz : zs.length = len) (hr : Row w a0 zs) (hnil : a0 = none → len = 0 ∧ cap = 0) (hm : len ≤ maxLen) :
    Calls Try.prog 3 #[.slice a0 len cap, .int .u8 typ, .int .i64 n] w fun e w' => e = .returned (.bool true) ∧ Below w.heap.size w w' := by
  unfold maxLen at hm
  by_cases hle : len ≤ 1048576
  · exact head_main a0 len cap zs typ n w hz hr hnil hle
  · clear hr hnil
    go_enter Try.func3, Try.ntmps3
    go_wp2_with (go_at_call 7; refine (bytes7_any _ _ _ _ _ _ (by omega)).mono ?_; rintro e w' ⟨rfl, rfl⟩)
    go_ret
    exact ⟨rfl, Below.refl _ _⟩

end Go.Proofs.Qxb6605859a
