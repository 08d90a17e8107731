import Derived.Test.Qxb6605700aLawBase
namespace Go.Proofs.Qxb6605700a
open Go.ChangeShapes Go.WideShapes Go.ChangeAt Go.RowKit
set_option linter.unusedVariables false

set_option maxRecDepth 100000 in
set_option maxHeartbeats 8000000 in
theorem law2 (r : SR) (a1 a2 : Option Addr) (n1 c1 n2 c2 : Nat) (rs1 rs2 : List SR) (w : World) (hr : r.Ok w) (h1 : SS w a1 n1 c1 rs1) (h2 : SS w a2 n2 c2 rs2) :
    Calls Try.prog 5 #[r.enc, .slice a1 n1 c1, .slice a2 n2 c2] w (LawPost w) := by
  have HR := hide hr
  have H1 := hide h1
  have H2 := hide h2
  have hm0 := hr.max
  have hm1 := h1.max
  have hm2 := h2.max
  clear hr h1 h2
  obtain ⟨ra, n, rc, ss⟩ := r
  unfold SR.enc
  simp only at hm0
  have hc9 := bytes17 ⟨ra, n, rc, ss⟩ a1 a2 n1 c1 n2 c2 rs1 rs2 w HR.out H1.out H2.out
  have hc10 := toolBytes ⟨ra, n, rc, ss⟩ a1 a2 n1 c1 n2 c2 rs1 rs2 w HR.out H1.out H2.out
  have HC9 := hide hc9
  have HC10 := hide hc10
  clear hc9 hc10
  go_enter Try.func5, Try.ntmps5
  go_wp2_with fail
  refine HC9.out.mono ?_
  rintro e w' ⟨⟨b, rfl⟩, rfl⟩
  cases b with
  | false =>
    go_wp2
    go_ret
    exact ⟨rfl, Below.refl _ _⟩
  | true =>
    by_cases hb0 : (65536 : Int) < (n : Int)
    · go_wp2
      go_ret
      exact ⟨rfl, Below.refl _ _⟩
    · have hd0 : decide ((65536 : Int) < (n : Int)) = false := by simp; omega
      by_cases hb1 : (65536 : Int) < (n1 : Int)
      · go_wp2
        go_ret
        exact ⟨rfl, Below.refl _ _⟩
      · have hd1 : decide ((65536 : Int) < (n1 : Int)) = false := by simp; omega
        by_cases hb2 : (65536 : Int) < (n2 : Int)
        · go_wp2
          go_ret
          exact ⟨rfl, Below.refl _ _⟩
        · have hd2 : decide ((65536 : Int) < (n2 : Int)) = false := by simp; omega
          go_wp2_with fail
          refine HC10.out.mono ?_
          rintro e w' ⟨⟨z, rfl, hz0, hfit⟩, rfl⟩
          have HFIT := hide hfit
          clear hfit HC9 HC10
          by_cases hz : (1048576 : Int) < z
          · go_wp2
            go_ret
            exact ⟨rfl, Below.refl _ _⟩
          · have hdz : decide ((1048576 : Int) < z) = false := by simp; omega
            have hsum : n ≤ 65536 ∧ cnt rs1 n1 ≤ 65536 ∧ cnt rs2 n2 ≤ 65536 := by
              rcases HFIT.out with h | h
              · exact absurd h hz
              · omega
            have e1 := H1.out.len
            have e2 := H2.out.len
            have hk1 : ∀ k, cnt rs1 k ≤ 65536 := fun k => Nat.le_trans (cnt_all k) (by rw [e1]; exact hsum.2.1)
            have hk2 : ∀ k, cnt rs2 k ≤ 65536 := fun k => Nat.le_trans (cnt_all k) (by rw [e2]; exact hsum.2.2)
            have hn : n ≤ 65536 := hsum.1
            have hn1 : n1 ≤ 65536 := by omega
            have hn2 : n2 ≤ 65536 := by omega
            have HK1 := hide hk1
            have HK2 := hide hk2
            have hcl := cloneStrings ⟨ra, n, rc, ss⟩ w' HR.out (by show n ≤ 1048576; omega)
            have HCL := hide hcl
            clear hsum e1 e2 hk1 hk2 hcl HFIT
            go_wp2_with fail
            refine HCL.out.mono ?_
            rintro e w3 ⟨r', rfl, hB3, hok3, -, hss3, hl3, hc3⟩
            obtain ⟨ra3, n3, rc3, ss3⟩ := r'
            unfold SR.enc
            simp only at hss3 hl3 hc3 hok3 ⊢
            subst hl3
            have hcl1 := cloneStringss a1 n1 c1 rs1 w3 (H1.out.later hB3) (by omega) (fun r hr => Nat.le_trans (row_le hr) (Nat.le_trans (HK1.out _) (by omega)))
            have HCL1 := hide hcl1
            have HOK3 := hide hok3
            have HB3 := hide hB3
            clear hcl1 hok3 hB3 HCL hss3 hc3
            go_wp2_with fail
            refine HCL1.out.mono ?_
            rintro e w4 ⟨a1', rs1', rfl, hB4, hS4, hA4⟩
            have hb34 := below_then HB3.out hB4
            have hcl2 := cloneStringss a2 n2 c2 rs2 w4 (H2.out.later hb34) (by omega) (fun r hr => Nat.le_trans (row_le hr) (Nat.le_trans (HK2.out _) (by omega)))
            have HCL2 := hide hcl2
            have HOK4 := hide (HOK3.out.later hB4)
            have HS4 := hide hS4
            have HB4 := hide hb34
            have hq1 : ∀ k, cnt rs1' k ≤ 65536 := fun k => by rw [cnt_alike hA4 H1.out.each hS4.each]; exact HK1.out k
            have HQ1 := hide hq1
            clear hcl2 hS4 hb34 hB4 hA4 hq1 HCL1 HOK3 HB3
            go_wp2_with fail
            refine HCL2.out.mono ?_
            rintro e w5 ⟨a2', rs2', rfl, hB5, hS5, hA5⟩
            have hb45 := below_then HB4.out hB5
            have hq2 : ∀ k, cnt rs2' k ≤ 65536 := fun k => by rw [cnt_alike hA5 H2.out.each hS5.each]; exact HK2.out k
            have hgr : Calls Try.prog 13 #[.slice ra3 n3 rc3, .slice a1' n1 n1, .slice a2' n2 n2, .bool false] w5 (GPost w5 n3 rs1' rs2') := toolGraph ⟨ra3, n3, rc3, ss3⟩ a1' a2' n1 n1 n2 n2 rs1' rs2' false w5 (HOK4.out.later hB5) (HS4.out.later hB5) hS5 hn hn1 hn2 HQ1.out hq2
            have HGR := hide hgr
            have HB5 := hide hb45
            have HOK5 := hide (HOK4.out.later hB5)
            have HS51 := hide (HS4.out.later hB5)
            have HS52 := hide hS5
            have HQ2 := hide hq2
            clear hgr hq2 hb45 hB5 hS5 hA5 HCL2 HOK4 HS4 HB4
            go_wp2_with fail
            refine HGR.out.mono ?_
            rintro e w6 ⟨gG, gP, pa, oa, rfl, hB6, hG6⟩
            have hgr2 : Calls Try.prog 13 #[.slice ra3 n3 rc3, .slice a1' n1 n1, .slice a2' n2 n2, .bool true] w6 (GPost w6 n3 rs1' rs2') := toolGraph ⟨ra3, n3, rc3, ss3⟩ a1' a2' n1 n1 n2 n2 rs1' rs2' true w6 (HOK5.out.later hB6) (HS51.out.later hB6) (HS52.out.later hB6) hn hn1 hn2 HQ1.out HQ2.out
            have HGR2 := hide hgr2
            have HG6 := hide hG6
            have HB6 := hide (below_then HB5.out hB6)
            clear hgr2 hG6 hB6 HGR HB5 HOK5 HS51 HS52 HQ1 HQ2
            go_wp2_with fail
            refine HGR2.out.mono ?_
            rintro e w7 ⟨gG2, gP2, pa2, oa2, rfl, hB7, hG7⟩
            have hG67 := HG6.out.later hB7
            have hpk := pkgsOf hG67 hn
            obtain ⟨is, his⟩ : ∃ is, Is n3 (ownerOf rs1' rs2' n3) is := ⟨_, ⟨rfl⟩⟩
            rw [← his.eq] at hpk
            have HPK := hide hpk
            have HIS := hide his
            have HGa := hide hG67
            have HGb := hide hG7
            have HB7 := hide (below_then HB6.out hB7)
            have hisl := his.len
            clear hpk his hG67 hG7 hB7 HGR2 HG6 HB6
            go_wp2_with fail
            refine HPK.out.mono ?_
            rintro e w8 ⟨ao, c, rfl, hB8, hrow8⟩
            have hGa8 := HGa.out.later hB8
            have hri := recordIndices gP n3 ao pa is.length c n3 is w8 rfl HIS.out.sorted HIS.out.lt hrow8 hGa8.row (by omega) (by omega)
            have HRI := hide hri
            have HGa8 := hide hGa8
            have HGb8 := hide (HGb.out.later hB8)
            have HB8 := hide (below_then HB7.out hB8)
            clear hri hGa8 hB8 hrow8 HPK HGa HGb HB7
            go_wp2_with fail
            refine HRI.out.mono ?_
            rintro e w9 ⟨v, rfl, hB9, hown9⟩
            obtain ⟨ai, ci, rfl, hrow9, -⟩ := hown9.slice
            have hpk2 := pkgsOf (HGb8.out.later hB9) hn
            rw [← HIS.out.eq] at hpk2
            have HPK2 := hide hpk2
            have HR9 := hide hrow9
            have HGa9 := hide (HGa8.out.later hB9)
            have HGb9 := hide (HGb8.out.later hB9)
            have HB9 := hide (below_then HB8.out hB9)
            clear hpk2 hrow9 hown9 hB9 HRI HGa8 HGb8 HB8
            go_wp2_with fail
            refine HPK2.out.mono ?_
            rintro e w10 ⟨ao2, cc2, rfl, hB10, hrow10⟩
            have hGb10 := HGb9.out.later hB10
            have hri2 := recordIndices gP2 n3 ao2 pa2 is.length cc2 n3 is w10 rfl HIS.out.sorted HIS.out.lt hrow10 hGb10.row (by omega) (by omega)
            have HRI2 := hide hri2
            have HGa10 := hide (HGa9.out.later hB10)
            have HR10 := hide (HR9.out.later hB10)
            have HB10 := hide (below_then HB9.out hB10)
            clear hri2 hGb10 hB10 hrow10 HPK2 HGa9 HGb9 HR9 HB9
            go_wp2_with fail
            refine HRI2.out.mono ?_
            rintro e w11 ⟨v2, rfl, hB11, hown11⟩
            obtain ⟨ai2, ci2, rfl, hrow11, -⟩ := hown11.slice
            have hG11 := HGa10.out.later hB11
            have hct := fun W (h : Below w11.heap.size w11 W) => countTrue oa n3 n3 ((List.range n3).map (ownerOf rs1' rs2' n3)) W (by simp) (hG11.later h).own (by omega)
            rw [HIS.out.count] at hct
            have HCT := hide hct
            have HRa := hide (HR10.out.later hB11)
            have HRb := hide hrow11
            have HB11 := hide (below_then HB10.out hB11)
            clear hct hG11 hrow11 hown11 hB11 HRI2 HGa10 HR10 HB10
            generalize hil : is.length = il at *
            go_wp2
            go_loopw [17] (fun i wx => ∃ k dn : Nat, k ≤ il ∧ i = .int .i64 k ∧ wx = w11.drewN dn) (fun i _ => il - (intOf i).toNat)
            case atStart => exact ⟨0, 0, Nat.zero_le _, rfl, rfl⟩
            case round =>
              obtain ⟨k, dn, hk, rfl, rfl⟩ := hrel
              by_cases hkl : k < il
              · obtain ⟨x, hx⟩ := get_of_lt (xs := is) (j := k) (by omega)
                obtain ⟨bi, offi, rfl, hcx⟩ := HRa.out.at hx
                obtain ⟨bj, offj, rfl, hcy⟩ := HRb.out.at hx
                have hkl' : (k : Int) < (il : Int) := by omega
                clear hx
                go_wp2
                go_quiet (fail)
                go_wp2
                go_roundw
                case rel => exact ⟨k + 1, _, by omega, by go_num, rfl⟩
                case measure => simp [intOf]; omega
              · go_wp2_with fail
                refine (HCT.out _ (below_drewN (Below.refl _ _) _)).mono ?_
                rintro e w12 ⟨rfl, rfl⟩
                go_wp2
                go_ret
                exact ⟨by simp, below_drewN HB11.out _⟩

end Go.Proofs.Qxb6605700a
