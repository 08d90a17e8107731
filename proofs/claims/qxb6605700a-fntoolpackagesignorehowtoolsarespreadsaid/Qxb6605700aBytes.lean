import Derived.Test.Qxb6605700aBase
namespace Go.Proofs.Qxb6605700a
open Go.ChangeShapes Go.WideShapes Go.ChangeAt Go.RowKit
set_option linter.unusedVariables false

/-- It returns a bool. -/
def RetBool (e : Ending) : Prop := ∃ b : Bool, e = .returned (.bool b)

set_option maxRecDepth 100000 in
set_option maxHeartbeats 8000000 in
theorem bytes9 (r0 : SR) (a1 a2 : Option Addr) (n1 c1 n2 c2 : Nat) (rs1 rs2 : List SR) (w : World) (h0 : r0.Ok w) (h1 : SS w a1 n1 c1 rs1) (h2 : SS w a2 n2 c2 rs2) :
    Calls Try.prog 9 #[r0.enc, .slice a1 n1 c1, .slice a2 n2 c2] w fun e w' => RetBool e ∧ w' = w := by
  have hm0 := h0.max
  have hm1 := h1.max
  have hm2 := h2.max
  have H0 := hide h0
  have H1 := hide h1
  have H2 := hide h2
  clear h0 h1 h2
  obtain ⟨a0, l0, c0, ss0⟩ := r0
  unfold SR.enc
  simp only at *
  go_enter Try.func9, Try.ntmps9
  go_wp2
  all_goals try (go_ret; exact ⟨⟨_, rfl⟩, rfl⟩)
  go_loop [7, 8] (fun z i => ∃ (q : Int) (k : Nat), k ≤ l0 ∧ z = .int .i64 q ∧ i = .int .i64 k) (fun _ i => l0 - (intOf i).toNat)
  case atStart => exact ⟨_, 0, Nat.zero_le _, rfl, rfl⟩
  case round =>
    obtain ⟨q, k, hk, rfl, rfl⟩ := hrel
    by_cases hlt : k < l0
    · obtain ⟨s, hs⟩ := get_of_lt (xs := ss0) (j := k) (by have := H0.out.len; simp only at this; omega)
      obtain ⟨b, off, hx, hcell⟩ := H0.out.row.at hs
      simp only at hx
      subst hx
      have hsz := H0.out.smax s (List.mem_of_getElem? hs)
      clear hs
      have hlt' : (k : Int) < (l0 : Int) := by omega
      go_wp2
      all_goals first | (go_ret; exact ⟨⟨_, rfl⟩, rfl⟩) | skip
      go_round
      case rel => exact ⟨_, k + 1, by omega, rfl, by go_num⟩
      case measure => simp [intOf]; omega
    · go_wp2
      all_goals first | (go_ret; exact ⟨⟨_, rfl⟩, rfl⟩) | skip
      go_loop [7, 9] (fun z i => ∃ (q : Int) (k : Nat), k ≤ n1 ∧ z = .int .i64 q ∧ i = .int .i64 k) (fun _ i => n1 - (intOf i).toNat)
      case atStart => exact ⟨_, 0, Nat.zero_le _, rfl, rfl⟩
      case round =>
        obtain ⟨q, k, hk, rfl, rfl⟩ := hrel
        by_cases hlt : k < n1
        · obtain ⟨r, hr⟩ := get_of_lt (xs := rs1) (j := k) (by have := H1.out.len; omega)
          obtain ⟨b, off, hx, hcell⟩ := H1.out.row.at hr
          subst hx
          have hok := H1.out.okAt hr
          have hrm := hok.max
          have HOK := hide hok
          clear hr hok
          obtain ⟨a, l, c, ss⟩ := r
          unfold SR.enc at hcell
          simp only at hcell hrm
          have hlt' : (k : Int) < (n1 : Int) := by omega
          go_wp2
          all_goals first | (go_ret; exact ⟨⟨_, rfl⟩, rfl⟩) | skip
          go_loop [7, 10] (fun z i => ∃ (q : Int) (j : Nat), j ≤ l ∧ z = .int .i64 q ∧ i = .int .i64 j) (fun _ i => l - (intOf i).toNat)
          case atStart => exact ⟨_, 0, Nat.zero_le _, rfl, rfl⟩
          case round =>
            obtain ⟨q2, j, hj, rfl, rfl⟩ := hrel
            by_cases hjl : j < l
            · obtain ⟨s, hs⟩ := get_of_lt (xs := ss) (j := j) (by have := HOK.out.len; simp only at this; omega)
              obtain ⟨b2, off2, hx2, hcell2⟩ := HOK.out.row.at hs
              simp only at hx2
              subst hx2
              have hsz := HOK.out.smax s (List.mem_of_getElem? hs)
              clear hs
              have hjl' : (j : Int) < (l : Int) := by omega
              go_wp2
              all_goals first | (go_ret; exact ⟨⟨_, rfl⟩, rfl⟩) | skip
              go_round
              case rel => exact ⟨_, j + 1, by omega, rfl, by go_num⟩
              case measure => simp [intOf]; omega
            · go_wp2
              go_round
              case rel => exact ⟨_, k + 1, by omega, rfl, by go_num⟩
              case measure => simp [intOf]; omega
        · go_wp2
          all_goals first | (go_ret; exact ⟨⟨_, rfl⟩, rfl⟩) | skip
          go_loop [7, 11] (fun z i => ∃ (q : Int) (k : Nat), k ≤ n2 ∧ z = .int .i64 q ∧ i = .int .i64 k) (fun _ i => n2 - (intOf i).toNat)
          case atStart => exact ⟨_, 0, Nat.zero_le _, rfl, rfl⟩
          case round =>
            obtain ⟨q, k, hk, rfl, rfl⟩ := hrel
            by_cases hlt : k < n2
            · obtain ⟨r, hr⟩ := get_of_lt (xs := rs2) (j := k) (by have := H2.out.len; omega)
              obtain ⟨b, off, hx, hcell⟩ := H2.out.row.at hr
              subst hx
              have hok := H2.out.okAt hr
              have hrm := hok.max
              have HOK := hide hok
              clear hr hok
              obtain ⟨a, l, c, ss⟩ := r
              unfold SR.enc at hcell
              simp only at hcell hrm
              have hlt' : (k : Int) < (n2 : Int) := by omega
              go_wp2
              all_goals first | (go_ret; exact ⟨⟨_, rfl⟩, rfl⟩) | skip
              go_loop [7, 12] (fun z i => ∃ (q : Int) (j : Nat), j ≤ l ∧ z = .int .i64 q ∧ i = .int .i64 j) (fun _ i => l - (intOf i).toNat)
              case atStart => exact ⟨_, 0, Nat.zero_le _, rfl, rfl⟩
              case round =>
                obtain ⟨q2, j, hj, rfl, rfl⟩ := hrel
                by_cases hjl : j < l
                · obtain ⟨s, hs⟩ := get_of_lt (xs := ss) (j := j) (by have := HOK.out.len; simp only at this; omega)
                  obtain ⟨b2, off2, hx2, hcell2⟩ := HOK.out.row.at hs
                  simp only at hx2
                  subst hx2
                  have hsz := HOK.out.smax s (List.mem_of_getElem? hs)
                  clear hs
                  have hjl' : (j : Int) < (l : Int) := by omega
                  go_wp2
                  all_goals first | (go_ret; exact ⟨⟨_, rfl⟩, rfl⟩) | skip
                  go_round
                  case rel => exact ⟨_, j + 1, by omega, rfl, by go_num⟩
                  case measure => simp [intOf]; omega
                · go_wp2
                  go_round
                  case rel => exact ⟨_, k + 1, by omega, rfl, by go_num⟩
                  case measure => simp [intOf]; omega
            · go_wp2
              all_goals (go_ret; exact ⟨⟨_, rfl⟩, rfl⟩)

set_option maxRecDepth 100000 in
set_option maxHeartbeats 8000000 in
theorem bytes17 (r0 : SR) (a1 a2 : Option Addr) (n1 c1 n2 c2 : Nat) (rs1 rs2 : List SR) (w : World) (h0 : r0.Ok w) (h1 : SS w a1 n1 c1 rs1) (h2 : SS w a2 n2 c2 rs2) :
    Calls Try.prog 17 #[r0.enc, .slice a1 n1 c1, .slice a2 n2 c2] w fun e w' => RetBool e ∧ w' = w := by
  have hm0 := h0.max
  have hm1 := h1.max
  have hm2 := h2.max
  have H0 := hide h0
  have H1 := hide h1
  have H2 := hide h2
  clear h0 h1 h2
  obtain ⟨a0, l0, c0, ss0⟩ := r0
  unfold SR.enc
  simp only at *
  go_enter Try.func17, Try.ntmps17
  go_wp2
  all_goals try (go_ret; exact ⟨⟨_, rfl⟩, rfl⟩)
  go_loop [7, 8] (fun z i => ∃ (q : Int) (k : Nat), k ≤ l0 ∧ z = .int .i64 q ∧ i = .int .i64 k) (fun _ i => l0 - (intOf i).toNat)
  case atStart => exact ⟨_, 0, Nat.zero_le _, rfl, rfl⟩
  case round =>
    obtain ⟨q, k, hk, rfl, rfl⟩ := hrel
    by_cases hlt : k < l0
    · obtain ⟨s, hs⟩ := get_of_lt (xs := ss0) (j := k) (by have := H0.out.len; simp only at this; omega)
      obtain ⟨b, off, hx, hcell⟩ := H0.out.row.at hs
      simp only at hx
      subst hx
      have hsz := H0.out.smax s (List.mem_of_getElem? hs)
      clear hs
      have hlt' : (k : Int) < (l0 : Int) := by omega
      go_wp2
      all_goals first | (go_ret; exact ⟨⟨_, rfl⟩, rfl⟩) | skip
      go_round
      case rel => exact ⟨_, k + 1, by omega, rfl, by go_num⟩
      case measure => simp [intOf]; omega
    · go_wp2
      all_goals first | (go_ret; exact ⟨⟨_, rfl⟩, rfl⟩) | skip
      go_loop [7, 9] (fun z i => ∃ (q : Int) (k : Nat), k ≤ n1 ∧ z = .int .i64 q ∧ i = .int .i64 k) (fun _ i => n1 - (intOf i).toNat)
      case atStart => exact ⟨_, 0, Nat.zero_le _, rfl, rfl⟩
      case round =>
        obtain ⟨q, k, hk, rfl, rfl⟩ := hrel
        by_cases hlt : k < n1
        · obtain ⟨r, hr⟩ := get_of_lt (xs := rs1) (j := k) (by have := H1.out.len; omega)
          obtain ⟨b, off, hx, hcell⟩ := H1.out.row.at hr
          subst hx
          have hok := H1.out.okAt hr
          have hrm := hok.max
          have HOK := hide hok
          clear hr hok
          obtain ⟨a, l, c, ss⟩ := r
          unfold SR.enc at hcell
          simp only at hcell hrm
          have hlt' : (k : Int) < (n1 : Int) := by omega
          go_wp2
          all_goals first | (go_ret; exact ⟨⟨_, rfl⟩, rfl⟩) | skip
          go_loop [7, 10] (fun z i => ∃ (q : Int) (j : Nat), j ≤ l ∧ z = .int .i64 q ∧ i = .int .i64 j) (fun _ i => l - (intOf i).toNat)
          case atStart => exact ⟨_, 0, Nat.zero_le _, rfl, rfl⟩
          case round =>
            obtain ⟨q2, j, hj, rfl, rfl⟩ := hrel
            by_cases hjl : j < l
            · obtain ⟨s, hs⟩ := get_of_lt (xs := ss) (j := j) (by have := HOK.out.len; simp only at this; omega)
              obtain ⟨b2, off2, hx2, hcell2⟩ := HOK.out.row.at hs
              simp only at hx2
              subst hx2
              have hsz := HOK.out.smax s (List.mem_of_getElem? hs)
              clear hs
              have hjl' : (j : Int) < (l : Int) := by omega
              go_wp2
              all_goals first | (go_ret; exact ⟨⟨_, rfl⟩, rfl⟩) | skip
              go_round
              case rel => exact ⟨_, j + 1, by omega, rfl, by go_num⟩
              case measure => simp [intOf]; omega
            · go_wp2
              go_round
              case rel => exact ⟨_, k + 1, by omega, rfl, by go_num⟩
              case measure => simp [intOf]; omega
        · go_wp2
          all_goals first | (go_ret; exact ⟨⟨_, rfl⟩, rfl⟩) | skip
          go_loop [7, 11] (fun z i => ∃ (q : Int) (k : Nat), k ≤ n2 ∧ z = .int .i64 q ∧ i = .int .i64 k) (fun _ i => n2 - (intOf i).toNat)
          case atStart => exact ⟨_, 0, Nat.zero_le _, rfl, rfl⟩
          case round =>
            obtain ⟨q, k, hk, rfl, rfl⟩ := hrel
            by_cases hlt : k < n2
            · obtain ⟨r, hr⟩ := get_of_lt (xs := rs2) (j := k) (by have := H2.out.len; omega)
              obtain ⟨b, off, hx, hcell⟩ := H2.out.row.at hr
              subst hx
              have hok := H2.out.okAt hr
              have hrm := hok.max
              have HOK := hide hok
              clear hr hok
              obtain ⟨a, l, c, ss⟩ := r
              unfold SR.enc at hcell
              simp only at hcell hrm
              have hlt' : (k : Int) < (n2 : Int) := by omega
              go_wp2
              all_goals first | (go_ret; exact ⟨⟨_, rfl⟩, rfl⟩) | skip
              go_loop [7, 12] (fun z i => ∃ (q : Int) (j : Nat), j ≤ l ∧ z = .int .i64 q ∧ i = .int .i64 j) (fun _ i => l - (intOf i).toNat)
              case atStart => exact ⟨_, 0, Nat.zero_le _, rfl, rfl⟩
              case round =>
                obtain ⟨q2, j, hj, rfl, rfl⟩ := hrel
                by_cases hjl : j < l
                · obtain ⟨s, hs⟩ := get_of_lt (xs := ss) (j := j) (by have := HOK.out.len; simp only at this; omega)
                  obtain ⟨b2, off2, hx2, hcell2⟩ := HOK.out.row.at hs
                  simp only at hx2
                  subst hx2
                  have hsz := HOK.out.smax s (List.mem_of_getElem? hs)
                  clear hs
                  have hjl' : (j : Int) < (l : Int) := by omega
                  go_wp2
                  all_goals first | (go_ret; exact ⟨⟨_, rfl⟩, rfl⟩) | skip
                  go_round
                  case rel => exact ⟨_, j + 1, by omega, rfl, by go_num⟩
                  case measure => simp [intOf]; omega
                · go_wp2
                  go_round
                  case rel => exact ⟨_, k + 1, by omega, rfl, by go_num⟩
                  case measure => simp [intOf]; omega
            · go_wp2
              all_goals (go_ret; exact ⟨⟨_, rfl⟩, rfl⟩)

end Go.Proofs.Qxb6605700a
