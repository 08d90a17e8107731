import Derived.Test.Qxb6605700aLawBase
namespace Go.Proofs.Qxb6605700a
open Go.ChangeShapes Go.WideShapes Go.ChangeAt Go.RowKit
set_option linter.unusedVariables false

set_option maxRecDepth 100000 in
set_option maxHeartbeats 8000000 in
theorem law1 (r : SR) (a1 a2 : Option Addr) (n1 c1 n2 c2 : Nat) (rs1 rs2 : List SR) (w : World) (hr : r.Ok w) (h1 : SS w a1 n1 c1 rs1) (h2 : SS w a2 n2 c2 rs2) :
    Calls Try.prog 4 #[r.enc, .slice a1 n1 c1, .slice a2 n2 c2] w (LawPost w) := by
  have HR := hide hr
  have H1 := hide h1
  have H2 := hide h2
  have hm0 := hr.max
  have hm1 := h1.max
  have hm2 := h2.max
  clear hr h1 h2
  obtain ⟨ra, n, rc, ss⟩ := r
  unfold SR.enc
  simp only at hm0
  have hc9 := bytes9 ⟨ra, n, rc, ss⟩ a1 a2 n1 c1 n2 c2 rs1 rs2 w HR.out H1.out H2.out
  have hc10 := toolBytes ⟨ra, n, rc, ss⟩ a1 a2 n1 c1 n2 c2 rs1 rs2 w HR.out H1.out H2.out
  have HC9 := hide hc9
  have HC10 := hide hc10
  clear hc9 hc10
  go_enter Try.func4, Try.ntmps4
  go_wp2_with fail
  refine HC9.out.mono ?_
  rintro e w' ⟨⟨b, rfl⟩, rfl⟩
  cases b with
  | false =>
    go_wp2
    go_ret
    exact ⟨rfl, Below.refl _ _⟩
  | true =>
    by_cases hb0 : (65536 : Int) < (n : Int)
    · go_wp2
      go_ret
      exact ⟨rfl, Below.refl _ _⟩
    · have hd0 : decide ((65536 : Int) < (n : Int)) = false := by simp; omega
      by_cases hb1 : (65536 : Int) < (n1 : Int)
      · go_wp2
        go_ret
        exact ⟨rfl, Below.refl _ _⟩
      · have hd1 : decide ((65536 : Int) < (n1 : Int)) = false := by simp; omega
        by_cases hb2 : (65536 : Int) < (n2 : Int)
        · go_wp2
          go_ret
          exact ⟨rfl, Below.refl _ _⟩
        · have hd2 : decide ((65536 : Int) < (n2 : Int)) = false := by simp; omega
          go_wp2_with fail
          refine HC10.out.mono ?_
          rintro e w' ⟨⟨z, rfl, hz0, hfit⟩, rfl⟩
          have HFIT := hide hfit
          clear hfit HC9 HC10
          by_cases hz : (1048576 : Int) < z
          · go_wp2
            go_ret
            exact ⟨rfl, Below.refl _ _⟩
          · have hdz : decide ((1048576 : Int) < z) = false := by simp; omega
            have hsum : n ≤ 65536 ∧ cnt rs1 n1 ≤ 65536 ∧ cnt rs2 n2 ≤ 65536 := by
              rcases HFIT.out with h | h
              · exact absurd h hz
              · omega
            have e1 := H1.out.len
            have e2 := H2.out.len
            have hk1 : ∀ k, cnt rs1 k ≤ 65536 := fun k => Nat.le_trans (cnt_all k) (by rw [e1]; exact hsum.2.1)
            have hk2 : ∀ k, cnt rs2 k ≤ 65536 := fun k => Nat.le_trans (cnt_all k) (by rw [e2]; exact hsum.2.2)
            have hn : n ≤ 65536 := hsum.1
            have hn1 : n1 ≤ 65536 := by omega
            have hn2 : n2 ≤ 65536 := by omega
            have HK1 := hide hk1
            have HK2 := hide hk2
            have hcl := cloneStrings ⟨ra, n, rc, ss⟩ w' HR.out (by show n ≤ 1048576; omega)
            have HCL := hide hcl
            clear hsum e1 e2 hk1 hk2 hcl HFIT
            go_wp2_with fail
            refine HCL.out.mono ?_
            rintro e w3 ⟨r', rfl, hB3, hok3, -, hss3, hl3, hc3⟩
            obtain ⟨ra3, n3, rc3, ss3⟩ := r'
            unfold SR.enc
            simp only at hss3 hl3 hc3 hok3 ⊢
            subst hl3
            have hcl1 := cloneStringss a1 n1 c1 rs1 w3 (H1.out.later hB3) (by omega) (fun r hr => Nat.le_trans (row_le hr) (Nat.le_trans (HK1.out _) (by omega)))
            have HCL1 := hide hcl1
            have HOK3 := hide hok3
            have HB3 := hide hB3
            clear hcl1 hok3 hB3 HCL hss3 hc3
            go_wp2_with fail
            refine HCL1.out.mono ?_
            rintro e w4 ⟨a1', rs1', rfl, hB4, hS4, hA4⟩
            have hb34 := below_then HB3.out hB4
            have hcl2 := cloneStringss a2 n2 c2 rs2 w4 (H2.out.later hb34) (by omega) (fun r hr => Nat.le_trans (row_le hr) (Nat.le_trans (HK2.out _) (by omega)))
            have HCL2 := hide hcl2
            have HOK4 := hide (HOK3.out.later hB4)
            have HS4 := hide hS4
            have HB4 := hide hb34
            have hq1 : ∀ k, cnt rs1' k ≤ 65536 := fun k => by rw [cnt_alike hA4 H1.out.each hS4.each]; exact HK1.out k
            have HQ1 := hide hq1
            clear hcl2 hS4 hb34 hB4 hA4 hq1 HCL1 HOK3 HB3
            go_wp2_with fail
            refine HCL2.out.mono ?_
            rintro e w5 ⟨a2', rs2', rfl, hB5, hS5, hA5⟩
            have hb45 := below_then HB4.out hB5
            have hq2 : ∀ k, cnt rs2' k ≤ 65536 := fun k => by rw [cnt_alike hA5 H2.out.each hS5.each]; exact HK2.out k
            have hgr : Calls Try.prog 13 #[.slice ra3 n3 rc3, .slice a1' n1 n1, .slice a2' n2 n2, .bool false] w5 (GPost w5 n3 rs1' rs2') := toolGraph ⟨ra3, n3, rc3, ss3⟩ a1' a2' n1 n1 n2 n2 rs1' rs2' false w5 (HOK4.out.later hB5) (HS4.out.later hB5) hS5 hn hn1 hn2 HQ1.out hq2
            have HGR := hide hgr
            have HB5 := hide hb45
            clear hgr hq2 hb45 hB5 hS5 hA5 HCL2 HOK4 HS4 HB4 HQ1
            go_wp2_with fail
            refine HGR.out.mono ?_
            rintro e w6 ⟨gG, gP, pa, oa, rfl, hB6, hG6⟩
            have hb6 := below_then HB5.out hB6
            have hpk := pkgsOf hG6 hn
            obtain ⟨is, his⟩ : ∃ is, Is n3 (ownerOf rs1' rs2' n3) is := ⟨_, ⟨rfl⟩⟩
            rw [← his.eq] at hpk
            have HPK := hide hpk
            have HIS := hide his
            have HG6 := hide hG6
            have HB6 := hide hb6
            have hisl := his.len
            clear hpk his hG6 hb6 hB6 HGR HB5
            go_wp2_with fail
            refine HPK.out.mono ?_
            rintro e w7 ⟨ao, c, rfl, hB7, hrow7⟩
            have hG7 := HG6.out.later hB7
            have hri := recordIndices gP n3 ao pa is.length c n3 is w7 rfl HIS.out.sorted HIS.out.lt hrow7 hG7.row (by omega) (by omega)
            have HRI := hide hri
            have HG7 := hide hG7
            have HB7 := hide (below_then HB6.out hB7)
            clear hri hG7 hB7 hrow7 HPK HG6 HB6
            go_wp2_with fail
            refine HRI.out.mono ?_
            rintro e w8 ⟨v, rfl, hB8, hown8⟩
            have hG8 := HG7.out.later hB8
            obtain ⟨ai, ci, rfl, hrow8, -⟩ := hown8.slice
            have hct := countTrue oa n3 n3 ((List.range n3).map (ownerOf rs1' rs2' n3)) w8 (by simp) hG8.own (by omega)
            rw [HIS.out.count] at hct
            have HCT := hide hct
            have HG8 := hide hG8
            have HR8 := hide hrow8
            have HB8 := hide (below_then HB7.out hB8)
            clear hct hG8 hrow8 hown8 hB8 HRI HG7 HB7
            generalize hil : is.length = il at *
            go_wp2_with fail
            refine HCT.out.mono ?_
            rintro e w9 ⟨rfl, rfl⟩
            clear HCT
            go_wp2
            go_loop [12] (fun i => ∃ k : Nat, k ≤ il ∧ i = .int .i64 k) (fun i => il - (intOf i).toNat)
            case atStart => exact ⟨0, Nat.zero_le _, rfl⟩
            case round =>
              obtain ⟨k, hk, rfl⟩ := hrel
              by_cases hkl : k < il
              · obtain ⟨x, hx⟩ := get_of_lt (xs := is) (j := k) (by omega)
                obtain ⟨bi, offi, rfl, hcx⟩ := HR8.out.at hx
                have hxn := HIS.out.lt x (List.mem_of_getElem? hx)
                have hxy := HIS.out.yes x (List.mem_of_getElem? hx)
                obtain ⟨bo, offo, rfl, hco⟩ := HG8.out.own.at (j := x) (x := true) (by rw [List.getElem?_map, List.getElem?_range hxn]; simp [hxy])
                have hxn' : (x : Int) < (n3 : Int) := by omega
                have hkl' : (k : Int) < (il : Int) := by omega
                clear hx hxy
                go_wp2
                go_round
                case rel => exact ⟨k + 1, by omega, by go_num⟩
                case measure => simp [intOf]; omega
              · go_wp2
                go_ret
                exact ⟨rfl, HB8.out⟩

end Go.Proofs.Qxb6605700a
