import Derived.Test.Qxb6605700aBase
namespace Go.Proofs.Qxb6605700a
open Go.ChangeShapes Go.WideShapes Go.ChangeAt Go.RowKit
set_option linter.unusedVariables false

/-- How many strings the first k rows hold. -/
def cnt (rs : List SR) : Nat → Nat
  | 0 => 0
  | k + 1 => cnt rs k + (match rs[k]? with | some r => r.l | none => 0)
theorem cnt_succ {rs : List SR} {k : Nat} {r : SR} (h : rs[k]? = some r) : cnt rs (k + 1) = cnt rs k + r.l := by simp [cnt, h]

set_option maxRecDepth 100000 in
set_option maxHeartbeats 2000000 in
theorem addStringss (t : Int) (ao : Option Addr) (n c : Nat) (rs : List SR) (w : World) (hS : SS w ao n c rs) (h0 : 0 ≤ t) (h1 : t ≤ 67108864) :
    Calls Try.prog 20 #[.int .i64 t, .slice ao n c] w fun e w' => (∃ z : Int, e = .returned (.int .i64 z) ∧ 0 ≤ z ∧ AddP t (16 * cnt rs n) z) ∧ w' = w := by
  have hmax := hS.max
  have HS := hide hS
  clear hS
  by_cases hb : 1048576 < t ∨ 1048576 < (n : Int)
  · go_enter Try.func20, Try.ntmps20
    go_wp2
    all_goals (go_ret; exact ⟨⟨_, rfl, by omega, .inl ⟨by omega, by omega⟩⟩, rfl⟩)
  · have hb1 : t ≤ 1048576 := by omega
    have hb2 : (n : Int) ≤ 1048576 := by omega
    clear hb
    have hd1 : decide (1048576 < t) = false := by simp; omega
    have hd2 : decide (1048576 < (n : Int)) = false := by simp; omega
    go_enter Try.func20, Try.ntmps20
    go_wp2
    go_loop [0, 5] (fun s i => ∃ (q : Int) (k : Nat), k ≤ n ∧ s = .int .i64 q ∧ 0 ≤ q ∧ AddP t (16 * cnt rs k) q ∧ i = .int .i64 k) (fun _ i => n - (intOf i).toNat)
    case atStart => exact ⟨_, 0, Nat.zero_le _, rfl, by omega, .inr ⟨by simp [cnt]; omega, by omega⟩, rfl⟩
    case round =>
      obtain ⟨q, k, hk, rfl, hq0, hA, rfl⟩ := hrel
      have hq1 : q ≤ 67108864 := by rcases hA with h | h <;> omega
      have HA := hide hA
      clear hA
      by_cases hlt : k < n
      · obtain ⟨r, hr⟩ := get_of_lt (xs := rs) (j := k) (by have := HS.out.len; omega)
        obtain ⟨b, off, rfl, hcell⟩ := HS.out.row.at hr
        have hok := HS.out.okAt hr
        have hc := cnt_succ hr
        have HCN := hide hc
        have HOK := hide hok
        clear hr hc hok
        have hlt' : (k : Int) < (n : Int) := by omega
        unfold SR.enc at hcell
        go_wp2_with fail
        refine (addStrings q r w HOK.out hq0 hq1).mono ?_
        rintro e w' ⟨⟨z, rfl, hz0, hz⟩, rfl⟩
        have hN : AddP t (16 * cnt rs (k + 1)) z := by
          rcases hz with hz | hz
          · exact .inl hz
          · rcases HA.out with ha | ha
            · exact .inl ⟨by omega, hz.2⟩
            · rw [HCN.out]; exact .inr ⟨by omega, hz.2⟩
        clear HA hz
        go_wp2
        go_round
        case rel => exact ⟨z, k + 1, by omega, rfl, hz0, hN, by go_num⟩
        case measure => simp [intOf]; omega
      · obtain rfl : k = n := by omega
        go_wp2
        go_ret
        exact ⟨⟨q, rfl, hq0, HA.out⟩, rfl⟩

/-- What zzToolBytes says where it does not exceed the cap. -/
def Fits (n0 : Nat) (rs1 rs2 : List SR) (n1 n2 : Nat) (z : Int) : Prop := 1048576 < z ∨ 16 * (n0 : Int) + 16 * (cnt rs1 n1 : Int) + 16 * (cnt rs2 n2 : Int) ≤ z

set_option maxRecDepth 100000 in
set_option maxHeartbeats 2000000 in
theorem toolBytes (r : SR) (a1 a2 : Option Addr) (n1 c1 n2 c2 : Nat) (rs1 rs2 : List SR) (w : World) (hr : r.Ok w) (h1 : SS w a1 n1 c1 rs1) (h2 : SS w a2 n2 c2 rs2) :
    Calls Try.prog 10 #[r.enc, .slice a1 n1 c1, .slice a2 n2 c2] w fun e w' => (∃ z : Int, e = .returned (.int .i64 z) ∧ 0 ≤ z ∧ Fits r.l rs1 rs2 n1 n2 z) ∧ w' = w := by
  go_enter Try.func10, Try.ntmps10
  go_wp2_with fail
  refine (addStrings 0 r w hr (by omega) (by omega)).mono ?_
  rintro e w' ⟨⟨z1, rfl, hz10, hz1⟩, rfl⟩
  have hz11 : z1 ≤ 67108864 := by rcases hz1 with h | h <;> omega
  have HZ1 := hide hz1
  clear hz1
  go_wp2_with fail
  refine (addStringss z1 a1 n1 c1 rs1 _ h1 hz10 hz11).mono ?_
  rintro e w' ⟨⟨z2, rfl, hz20, hz2⟩, rfl⟩
  have hz21 : z2 ≤ 67108864 := by rcases hz2 with h | h <;> omega
  have HZ2 := hide hz2
  clear hz2
  go_wp2_with fail
  refine (addStringss z2 a2 n2 c2 rs2 _ h2 hz20 hz21).mono ?_
  rintro e w' ⟨⟨z3, rfl, hz30, hz3⟩, rfl⟩
  have hF : Fits r.l rs1 rs2 n1 n2 z3 := by
    rcases hz3 with h3 | h3
    · exact .inl h3.1
    · rcases HZ2.out with h2 | h2
      · exact .inl (by omega)
      · rcases HZ1.out with h1 | h1
        · exact .inl (by omega)
        · exact .inr (by omega)
  clear HZ1 HZ2 hz3
  go_wp2
  go_ret
  exact ⟨⟨z3, rfl, hz30, hF⟩, rfl⟩

end Go.Proofs.Qxb6605700a
