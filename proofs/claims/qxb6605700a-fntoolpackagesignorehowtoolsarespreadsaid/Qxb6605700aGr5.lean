import Derived.Test.Qxb6605700aGr4
namespace Go.Proofs.Qxb6605700a
open Go.ChangeShapes Go.WideShapes Go.ChangeAt Go.RowKit
set_option linter.unusedVariables false

theorem below_drew {B : Nat} {a w : World} (h : Below B a w) : Below B a w.drew := ⟨h.os, h.tape, h.output, h.size, h.block⟩

set_option maxRecDepth 100000 in
set_option maxHeartbeats 16000000 in
theorem toolGraph (r : SR) (a1 a2 : Option Addr) (n1 c1 n2 c2 : Nat) (rs1 rs2 : List SR) (single : Bool) (w : World) (hr : r.Ok w) (h1 : SS w a1 n1 c1 rs1) (h2 : SS w a2 n2 c2 rs2)
    (hn : r.l ≤ 65536) (hn1 : n1 ≤ 65536) (hn2 : n2 ≤ 65536) (hc1 : ∀ k, cnt rs1 k ≤ 65536) (hc2 : ∀ k, cnt rs2 k ≤ 65536) :
    Calls Try.prog 13 #[r.enc, .slice a1 n1 c1, .slice a2 n2 c2, .bool single] w (GPost w r.l rs1 rs2) := by
  have HR := hide hr
  have H1 := hide h1
  have H2 := hide h2
  have HC1 := hide hc1
  have HC2 := hide hc2
  clear hr h1 h2 hc1 hc2
  obtain ⟨ra, n, rc, ss⟩ := r
  unfold SR.enc
  simp only at *
  obtain ⟨i55, z55, hi55, hz55, hs55, hb55, h7, h6⟩ := info55z
  obtain ⟨i28, hi28, hz28, hs28, hb28⟩ := info_parts info28
  obtain ⟨i9, hi9, hz9, hs9, hb9⟩ := info_parts info9
  obtain ⟨i34, hi34, hz34, hs34, hb34⟩ := info_parts info34
  obtain ⟨i4, hi4, hz4, hs4, hb4⟩ := info_parts info4
  obtain ⟨i24, hi24, hz24, hs24, hb24⟩ := info_parts info24
  obtain ⟨i30, hi30, hz30, hs30, hb30⟩ := info_parts info30
  obtain ⟨i56, hi56, hz56, hs56, hb56⟩ := info_parts info56
  have hmm := @run_makeMap Try.prog
  have hbb : i55.bytes * n ≤ 281474976710656 := Nat.le_trans (Nat.mul_le_mul hb55 hn) (by omega)
  have HZ7 := hide h7
  have HZ6 := hide h6
  clear h7 h6
  go_enter Try.func13, Try.ntmps13
  go_wp2_with (first
    | (at_make; refine wpList_make_full _ rfl _ _ 52 rfl w.heap.size 55 i55 z55 7 Try.underlying52 hi55 hz55 hs55 _ _ _ _ n rfl rfl rfl rfl hbb (by unfold maxLen; omega) (Nat.le_refl _) ?_; generalize egP : w.heap.size = gP; intro w1 hown1 hgrow1)
    | (at_make; refine wpList_make_full _ rfl _ _ 41 rfl gP 28 i28 (.pointer none) 1 Try.underlying41 hi28 hz28 hs28 _ _ _ _ n rfl rfl rfl rfl (by rw [hb28]; omega) (by unfold maxLen; omega) (by rw [← egP]; exact hgrow1.size) ?_; generalize egT : w1.heap.size = gT; intro w2 hown2 hgrow2))
  have hPh := Ph.start (z := z55) (zp := .pointer none) HZ7.out HZ6.out egP.symm egT.symm (by rw [egP]; exact hown1) hgrow1 (by rw [egP]; exact hown2) hgrow2
  generalize hw3 : w2.alloc (.map #[] 0) = w3 at *
  generalize hgM : w2.heap.size = gM at *
  clear hown1 hgrow1 hown2 hgrow2 hw3 hgM egT HZ7 HZ6 hbb
  go_loopw [14] (fun i wr => ∃ k nn : Nat, k ≤ n ∧ i = .int .i64 k ∧ nn ≤ cnt rs1 k ∧ Ph w n gP gT gM k k nn (ownTo rs1 k) wr) (fun i _ => n - (intOf i).toNat)
  case atStart => exact ⟨0, 0, Nat.zero_le _, rfl, Nat.zero_le _, hPh⟩
  case round =>
    obtain ⟨k, nn, hk, rfl, hnn, hPh⟩ := hrel
    by_cases hlt : k < n
    · obtain ⟨s, hs⟩ := get_of_lt (xs := ss) (j := k) (by have := HR.out.len; simp only at this; omega)
      obtain ⟨b, off, hx, hcell⟩ := HR.out.row.at hs
      simp only at hx
      subst hx
      have hcw := (hPh.below.cell (p := ⟨b, off + k, none⟩) (lt_of_cell hcell)).trans hcell
      have hlt' : (k : Int) < (n : Int) := by omega
      have hnnb : nn ≤ 65536 := Nat.le_trans hnn (HC1.out k)
      clear hcell hs
      by_cases hk1 : k < n1
      · obtain ⟨r1, hr1⟩ := get_of_lt (xs := rs1) (j := k) (by have := H1.out.len; omega)
        obtain ⟨b1, off1, rfl, hcell1⟩ := H1.out.row.at hr1
        unfold SR.enc at hcell1
        have hlt1' : (k : Int) < (n1 : Int) := by omega
        go_wp2_with (first
          | (refine wpList_store_blk rfl 9 _ _ rfl i9 hi9 hs9 _ _ rfl _ rfl rfl hPh.pk (by omega) ?_; intro w4 hw4; have hPh4 : Ph w n gP gT gM k k nn (ownTo rs1 k) w4 := (by rw [hw4.out]; exact hPh.setP k _ _ (Nat.le_refl _) (by intro j hj; omega)); have hc4 := (hPh4.below.cell (p := ⟨b1, off1 + k, none⟩) (lt_of_cell hcell1)).trans hcell1))
        clear hw4
        have hok1 := (H1.out.okAt hr1).later (hPh4.below.mono (Nat.le_refl _))
        have hrl : r1.l ≤ 1048576 := by
          have e := cnt_succ hr1
          have := HC1.out (k + 1)
          omega
        have hrow1 : rowAt rs1 k = r1.ss := by unfold rowAt; rw [hr1]
        have HRR := hide hrow1
        clear hr1 hcell1 hc4 hrow1
        refine (cloneStrings r1 w4 hok1 hrl).mono ?_
        rintro e w5 ⟨r', rfl, hB5, hok5, hfr, hss, hl1, hl2⟩
        have hPh5 := hPh4.later hB5
        have HFR := hide hfr
        have HPL := hide hPh4.pk.lt
        clear hPh hPh4 hB5 hfr hl1 hl2 hok1 hrl
        obtain ⟨raF, lF, rcF, ssF⟩ := r'
        unfold SR.enc
        simp only at hss hok5 ⊢
        have hssF : ssF = rowAt rs1 k := hss.trans HRR.out.symm
        clear hss HRR
        go_wp2_with (refine wpList_store_blk rfl 34 _ _ rfl i34 hi34 hs34 _ _ rfl _ rfl rfl hPh5.pk (by omega) ?_; intro WF hWF; have hPhF : Ph w n gP gT gM (k + 1) k nn (ownTo rs1 k) WF := (by rw [hWF.out]; exact hPh5.setP (k + 1) _ _ (by omega) (by intro j hj; omega)); have hcF : WF.cell? ⟨gP, k * 7 + 6, none⟩ = some (.slice raF lF rcF) := (by rw [hWF.out]; obtain ⟨v0, hv0⟩ := hPh5.pk.cell (show k * 7 + 6 < n * 7 by omega); exact set_same hv0); have hokF : SR.Ok ⟨raF, lF, rcF, ssF⟩ WF := (by rw [hWF.out]; exact hok5.setFar HFR.out HPL.out _); clear hWF hok5 hPh5)
        have HF := hide hokF
        have HSS := hide hssF
        have hlF : lF ≤ 65536 := by
          have e := cnt_rowAt (fun r hr => H1.out.each r hr) k
          have := HC1.out (k + 1)
          have e2 := HF.out.len
          simp only at e2
          rw [← HSS.out] at e
          omega
        clear hokF hssF
        go_wp2
        go_loopw [67] (fun i wx => ∃ j mm : Nat, j ≤ lF ∧ i = .int .i64 j ∧ mm ≤ cnt rs1 k + j ∧ WF.grownBy wx (some gM) ∧ Ph w n gP gT gM (k + 1) k mm (ownMid rs1 k j) wx) (fun i _ => lF - (intOf i).toNat)
        case atStart => exact ⟨0, nn, Nat.zero_le _, rfl, by omega, ⟨rfl, rfl, rfl, Nat.le_refl _, fun _ _ _ => rfl⟩, by rw [ownMid_zero]; exact hPhF⟩
        case round =>
          obtain ⟨j, mm, hj, rfl, hmm', hgx, hPhx⟩ := hrel
          have hck := HC1.out k
          by_cases hjl : j < lF
          · obtain ⟨s', hs'⟩ := get_of_lt (xs := ssF) (j := j) (by have := HF.out.len; simp only at this; omega)
            obtain ⟨b', off', hx', hcell'⟩ := HF.out.row.at hs'
            simp only at hx'
            subst hx'
            have hcx := hgx.cell hcell' (hPhF.map.ne hcell')
            have hsz' := HF.out.smax s' (List.mem_of_getElem? hs')
            have hSU := ownMid_succ (rs := rs1) (i := k) (k := j) (s := s') (by rw [← HSS.out]; exact hs')
            have HSU := hide hSU
            have hjl' : (j : Int) < (lF : Int) := by omega
            clear hcell' hs' hSU
            go_wp2_with (at_mapUpdate; refine wpList_mapUpdate_S rfl _ _ _ rfl gM mm _ rfl hPhx.map (by omega) s' hsz' rfl (k + 1) (by omega) (by go_num) ?_; intro wy hmy hgy)
            go_roundw
            case rel =>
              rw [HSU.out] at hmy
              exact ⟨j + 1, mm + 1, by omega, by go_num, by omega, hgx.trans hgy, hPhx.put hmy hgy⟩
            case measure => simp [intOf]; omega
          · obtain rfl : j = lF := by omega
            have hall := ownMid_all rs1 k j (by have := HF.out.len; simp only at this; rw [← HSS.out]; omega)
            rw [hall] at hPhx
            have hcn : mm ≤ cnt rs1 (k + 1) := by
              have e := cnt_rowAt (fun r hr => H1.out.each r hr) k
              have e2 := HF.out.len
              simp only at e2
              rw [← HSS.out] at e
              omega
            go_wp2_with (refine wpList_store_blk rfl 28 _ _ rfl i28 hi28 hs28 _ _ rfl _ rfl rfl hPhx.pt (by omega) ?_; intro wz hwz; have hPhz : Ph w n gP gT gM (k + 1) (k + 1) mm (ownTo rs1 (k + 1)) wz := (by rw [hwz.out]; exact hPhx.setT hlt); clear hwz)
            go_roundw
            case rel => exact ⟨k + 1, mm, by omega, by go_num, hcn, hPhz⟩
            case measure => simp [intOf]; omega
      · have hd1 : decide ((k : Int) < (n1 : Int)) = false := by simp; omega
        have hrow1 : rowAt rs1 k = [] := by
          unfold rowAt
          rw [List.getElem?_eq_none (by have := H1.out.len; omega)]
        obtain ⟨raF, lF, rcF, ssF, hv, hssF⟩ : ∃ raF lF rcF, ∃ ssF : List ByteArray, Value.slice none 0 0 = .slice raF lF rcF ∧ (ssF = rowAt rs1 k ∧ ∀ W, SR.Ok ⟨raF, lF, rcF, ssF⟩ W) := ⟨none, 0, 0, [], rfl, hrow1.symm, fun W => ⟨rfl, .inl rfl, fun _ => ⟨rfl, rfl⟩, by simp, by simp⟩⟩
        obtain ⟨hssF, hokW⟩ := hssF
        clear hrow1
        have hfil := hPh.fil k (Nat.le_refl _) hlt
        rw [hv] at hfil
        clear hv
        go_wp2_with (first
          | (refine wpList_store_blk rfl 9 _ _ rfl i9 hi9 hs9 _ _ rfl _ rfl rfl hPh.pk (by omega) ?_; intro WF hWF; have hPhF : Ph w n gP gT gM (k + 1) k nn (ownTo rs1 k) WF := (by rw [hWF.out]; exact (hPh.setP k _ _ (Nat.le_refl _) (by intro j hj; omega)).loUp); have hcF : WF.cell? ⟨gP, k * 7 + 6, none⟩ = some (.slice raF lF rcF) := (by rw [hWF.out, set_other (by omega)]; exact hfil); have hokF := hokW WF; clear hWF hfil))
        have HF := hide hokF
        have HSS := hide hssF
        have hlF : lF ≤ 65536 := by
          have e := cnt_rowAt (fun r hr => H1.out.each r hr) k
          have := HC1.out (k + 1)
          have e2 := HF.out.len
          simp only at e2
          rw [← HSS.out] at e
          omega
        clear hokF hssF
        go_wp2
        go_loopw [67] (fun i wx => ∃ j mm : Nat, j ≤ lF ∧ i = .int .i64 j ∧ mm ≤ cnt rs1 k + j ∧ WF.grownBy wx (some gM) ∧ Ph w n gP gT gM (k + 1) k mm (ownMid rs1 k j) wx) (fun i _ => lF - (intOf i).toNat)
        case atStart => exact ⟨0, nn, Nat.zero_le _, rfl, by omega, ⟨rfl, rfl, rfl, Nat.le_refl _, fun _ _ _ => rfl⟩, by rw [ownMid_zero]; exact hPhF⟩
        case round =>
          obtain ⟨j, mm, hj, rfl, hmm', hgx, hPhx⟩ := hrel
          have hck := HC1.out k
          by_cases hjl : j < lF
          · obtain ⟨s', hs'⟩ := get_of_lt (xs := ssF) (j := j) (by have := HF.out.len; simp only at this; omega)
            obtain ⟨b', off', hx', hcell'⟩ := HF.out.row.at hs'
            simp only at hx'
            subst hx'
            have hcx := hgx.cell hcell' (hPhF.map.ne hcell')
            have hsz' := HF.out.smax s' (List.mem_of_getElem? hs')
            have hSU := ownMid_succ (rs := rs1) (i := k) (k := j) (s := s') (by rw [← HSS.out]; exact hs')
            have HSU := hide hSU
            have hjl' : (j : Int) < (lF : Int) := by omega
            clear hcell' hs' hSU
            go_wp2_with (at_mapUpdate; refine wpList_mapUpdate_S rfl _ _ _ rfl gM mm _ rfl hPhx.map (by omega) s' hsz' rfl (k + 1) (by omega) (by go_num) ?_; intro wy hmy hgy)
            go_roundw
            case rel =>
              rw [HSU.out] at hmy
              exact ⟨j + 1, mm + 1, by omega, by go_num, by omega, hgx.trans hgy, hPhx.put hmy hgy⟩
            case measure => simp [intOf]; omega
          · obtain rfl : j = lF := by omega
            have hall := ownMid_all rs1 k j (by have := HF.out.len; simp only at this; rw [← HSS.out]; omega)
            rw [hall] at hPhx
            have hcn : mm ≤ cnt rs1 (k + 1) := by
              have e := cnt_rowAt (fun r hr => H1.out.each r hr) k
              have e2 := HF.out.len
              simp only at e2
              rw [← HSS.out] at e
              omega
            go_wp2_with (refine wpList_store_blk rfl 28 _ _ rfl i28 hi28 hs28 _ _ rfl _ rfl rfl hPhx.pt (by omega) ?_; intro wz hwz; have hPhz : Ph w n gP gT gM (k + 1) (k + 1) mm (ownTo rs1 (k + 1)) wz := (by rw [hwz.out]; exact hPhx.setT hlt); clear hwz)
            go_roundw
            case rel => exact ⟨k + 1, mm, by omega, by go_num, hcn, hPhz⟩
            case measure => simp [intOf]; omega
    · obtain rfl : n = k := by omega
      have HPH := hide hPh
      clear hPh
      go_wp2_with (at_make; refine wpList_make_full _ rfl _ _ 42 rfl w.heap.size 4 i4 (.bool false) 1 Try.underlying42 hi4 hz4 hs4 _ _ _ _ n rfl rfl rfl rfl (by rw [hb4]; omega) (by unfold maxLen; omega) HPH.out.below.size ?_; generalize egO : wr.heap.size = gO; intro w5 hown5 hgrow5; have hSt0 := St.start HPH.out egO.symm hown5 hgrow5; clear hown5 hgrow5)
      go_loopw [18, 19, 20] (fun fv0 av0 ki wx => ∃ fv av : Value, ∃ k2, ∃ fs : List FS, ∃ allT : List Tl, fv = fv0 ∧ av = av0 ∧ k2 ≤ n2 ∧ ki = .int .i64 (k2 : Nat) ∧ St w n gP gT gM gO nn (ownTo rs1 n) (fun j => OwnedBy allT (some j)) fs fv av allT wx ∧ Pure (ownTo rs1 n) rs2 k2 0 fs [] allT) (fun _ _ ki _ => n2 - (intOf ki).toNat)
      case atStart => exact ⟨_, _, 0, [], [], rfl, rfl, Nat.zero_le _, rfl, hSt0, Pure.start _ _⟩
      case round =>
        clear hSt0 HPH
        obtain ⟨fv, av, k2, fs, allT, rfl, rfl, hk2, rfl, hSt, hPu⟩ := hrel
        have hlA : allT.length ≤ 65536 := Nat.le_trans (hPu.count (fun r hr => H2.out.each r hr)) (HC2.out _)
        by_cases hlt2 : k2 < n2
        · obtain ⟨r2, hr2⟩ := get_of_lt (xs := rs2) (j := k2) (by have := H2.out.len; omega)
          obtain ⟨b2, off2, rfl, hcell2⟩ := H2.out.row.at hr2
          have hok2 := H2.out.okAt hr2
          have hrow2 : rowAt rs2 k2 = r2.ss := by unfold rowAt; rw [hr2]
          obtain ⟨ra2, l2, rc2, ss2⟩ := r2
          unfold SR.enc at hcell2
          simp only at hcell2 hrow2
          have HOK2 := hide hok2
          have HROW2 := hide hrow2
          have HST := hide hSt
          have HPU := hide hPu
          have hlt2' : (k2 : Int) < (n2 : Int) := by omega
          have hl2b : l2 ≤ 65536 := by
            have e := cnt_succ hr2
            have := HC2.out (k2 + 1)
            simp only at e
            omega
          have hfsl : fs.length ≤ 65536 := by rw [hPu.len]; omega
          clear hok2 hrow2 hSt hPu hr2
          go_wp2_with (refine wpList_box_hid rfl 32 _ rfl _ rfl ?_; intro wf fb hwf; have hStf : St w n gP gT gM gO nn (ownTo rs1 n) (fun j => OwnedBy allT (some j)) fs fv av allT wf := (by rw [hwf.out.2]; exact HST.out.later (below_alloc _ _)); have hCuf : Cu w fs av ⟨fb, .slice none 0 0, []⟩ wf := (by rw [hwf.out.2, hwf.out.1]; exact HST.out.newFile _ rfl rfl); clear hwf)
          go_loopw [19, 22] (fun av0 mi wx => ∃ av : Value, ∃ m, ∃ allT cts : List Tl, ∃ cv : Value, av = av0 ∧ m ≤ l2 ∧ mi = .int .i64 (m : Nat) ∧ St w n gP gT gM gO nn (ownTo rs1 n) (fun j => OwnedBy allT (some j)) fs fv av allT wx ∧ Cu w fs av ⟨fb, cv, cts⟩ wx ∧ Pure (ownTo rs1 n) rs2 k2 m fs cts allT) (fun _ mi _ => l2 - (intOf mi).toNat)
          case atStart => exact ⟨_, 0, allT, [], .slice none 0 0, rfl, Nat.zero_le _, rfl, hStf, hCuf, HPU.out⟩
          case round =>
            clear hStf hCuf HST HPU hlA
            clear allT
            obtain ⟨av, m, allT, cts, cv, rfl, hm, rfl, hSt, hCu, hPu⟩ := hrel
            have hlA : allT.length ≤ 65536 := Nat.le_trans (hPu.count (fun r hr => H2.out.each r hr)) (HC2.out _)
            have hlC : cts.length ≤ 65536 := by
              have e := congrArg List.length hPu.tools
              rw [List.length_append] at e
              omega
            have hc2w := (hSt.x.below.cell (p := ⟨b2, off2 + k2, none⟩) (lt_of_cell hcell2)).trans hcell2
            by_cases hml : m < l2
            · obtain ⟨s, hs⟩ := get_of_lt (xs := ss2) (j := m) (by have := HOK2.out.len; simp only at this; omega)
              obtain ⟨b3, off3, hx3, hcell3⟩ := HOK2.out.row.at hs
              simp only at hx3
              subst hx3
              have hc3w := (hSt.x.below.cell (p := ⟨b3, off3 + m, none⟩) (lt_of_cell hcell3)).trans hcell3
              have hsm := HOK2.out.smax s (List.mem_of_getElem? hs)
              have hml' : (m : Int) < (l2 : Int) := by omega
              have hgs : (rowAt rs2 k2)[m]? = some s := by rw [HROW2.out]; exact hs
              have HGS := hide hgs
              have HS0 := hide hSt
              have HC0 := hide hCu
              have HP0 := hide hPu
              have hown := ownTo_le rs1 n s
              clear hcell3 hs hgs hSt hCu hPu
              cases ho : ownTo rs1 n s with
              | zero =>
                have HO := hide ho
                clear ho hown
                go_wp2_with (first
                  | (refine wpList_box_hid rfl 58 _ rfl #[.string s, .string ByteArray.empty, .string ByteArray.empty, .string ByteArray.empty, .pointer none] rfl ?_; intro wv gt hwv; have HSV : Hid (St w n gP gT gM gO nn (ownTo rs1 n) (fun j => OwnedBy allT (some j)) fs fv av allT wv) := hide (by rw [hwv.out.2]; exact HS0.out.later (below_alloc _ _)); have HCV : Hid (Cu w fs av ⟨fb, cv, cts⟩ wv) := hide (by rw [hwv.out.2]; exact HC0.out.later (below_alloc _ _)); have HTV : Hid ((Tl.mk gt s none).Ok wv gP) := hide (by rw [hwv.out.2, hwv.out.1]; exact Tl.Ok.fresh _ _ _); have HPT : Hid (Pure (ownTo rs1 n) rs2 k2 (m + 1) fs (cts ++ [⟨gt, s, none⟩]) (allT ++ [⟨gt, s, none⟩])) := hide (HP0.out.tool HGS.out (pkgOf_zero HO.out).symm (by intro x hx; show x.b ≠ gt; rw [hwv.out.1]; have := (HS0.out.x.tok x hx).blk.lt; omega)); have hcp := HTV.out.path; have hcf := HCV.out.ok.cell; simp only at hcp hcf; clear hwv HS0 HC0 HP0 HGS)
                  | (at_lookup; refine wpList_lookup_N rfl _ _ rfl gM nn (ownTo rs1 n) rfl HSV.out.x.map s hsm rfl 0 HO.out ?_)
                  | (at_builtin; refine wpList_append_Own Tl.enc rfl _ _ 30 rfl w.heap.size 56 i56 (.pointer none) 8 Try.underlying30 hi56 hz56 hs56 hb56 rfl (by omega) cv cts rfl (HCV.out.ok.own.later (below_alloc _ _)) ⟨gt, s, none⟩ rfl _ rfl (cell_new _ _ _) (by omega) (Nat.le_trans HSV.out.x.below.size (by simp)) ?_; intro v5 w5 hown5 hgrow5 hat5; have hcur := St.cur (HSV.out.later (below_alloc _ _)) (HCV.out.later (below_alloc _ _)) hgrow5 hown5 hat5; have htc := Tl.Ok.cur (v' := v5) (HTV.out.later (below_alloc _ _)) (HCV.out.later (below_alloc _ _)) hgrow5; have hblk5 := hcur.1; have hv5 := Own.one hown5; have HCUR := hide hcur.2; have HTC := hide htc; clear hcur htc hown5 hgrow5 hat5)
                  | (refine wpList_store_blk rfl 30 _ _ rfl i30 hi30 hs30 _ _ rfl _ rfl hv5 hblk5 (by omega) ?_; intro w6 hw6; have HS6 := HCUR.out.1; have HC6 := HCUR.out.2; have HT6 := HTC.out; have e6 : w6 = w5.setCell ⟨fb, 9, none⟩ v5 := hw6.out; rw [← e6] at HS6 HC6 HT6; have HS6 := hide HS6; have HC6 := hide HC6; have HT6 := hide HT6; clear e6 hw6 hblk5 hv5 HCUR HTC)
                  | (at_builtin; refine wpList_append_Own Tl.enc rfl _ _ 30 rfl w.heap.size 56 i56 (.pointer none) 8 Try.underlying30 hi56 hz56 hs56 hb56 rfl (by omega) av allT rfl (HS6.out.all.later (below_alloc _ _)) ⟨gt, s, none⟩ rfl _ rfl (cell_new _ _ _) (by omega) (Nat.le_trans HS6.out.x.below.size (by simp)) ?_; intro v8 w8 hown8 hgrow8 hat8; have hall8 := St.allUp (HS6.out.later (below_alloc _ _)) (HC6.out.later (below_alloc _ _)) (HT6.out.later (below_alloc _ _)) hgrow8 hown8 hat8; have HA8 := hide hall8; clear hall8 hown8 hgrow8 hat8))
                go_roundw
                case rel =>
                  refine ⟨v8, m + 1, allT ++ [⟨gt, s, none⟩], cts ++ [⟨gt, s, none⟩], v5, rfl, by omega, by go_num, ?_, HA8.out.2, HPT.out⟩
                  rw [ownedBy_none (t := ⟨gt, s, none⟩) rfl]
                  exact HA8.out.1
                case measure => simp [intOf]; omega
              | succ j =>
                have HO := hide ho
                have hjn : j < n := by omega
                have hjn' : (j : Int) < (n : Int) := by omega
                clear ho hown
                go_wp2_with (first
                  | (refine wpList_box_hid rfl 58 _ rfl #[.string s, .string ByteArray.empty, .string ByteArray.empty, .string ByteArray.empty, .pointer none] rfl ?_; intro wt gt hwt; have HSTt : Hid (St w n gP gT gM gO nn (ownTo rs1 n) (fun j => OwnedBy allT (some j)) fs fv av allT wt) := hide (by rw [hwt.out.2]; exact HS0.out.later (below_alloc _ _)); have HTT : Hid ((Tl.mk gt s none).Ok wt gP) := hide (by rw [hwt.out.2, hwt.out.1]; exact Tl.Ok.fresh _ _ _); have HPT : Hid (Pure (ownTo rs1 n) rs2 k2 (m + 1) fs (cts ++ [⟨gt, s, some j⟩]) (allT ++ [⟨gt, s, some j⟩])) := hide (HP0.out.tool HGS.out (pkgOf_succ HO.out).symm (by intro x hx; show x.b ≠ gt; rw [hwt.out.1]; have := (HS0.out.x.tok x hx).blk.lt; omega)); have hcp := HTT.out.path; have hcT := HSTt.out.x.pts j hjn; have hblkt := HTT.out.blk; simp only at hcp hblkt; unfold PP at hcT; clear HP0 HGS)
                  | (at_lookup; refine wpList_lookup_N rfl _ _ rfl gM nn (ownTo rs1 n) rfl HSTt.out.x.map s hsm rfl (j + 1) HO.out ?_)
                  | (refine wpList_store_blk rfl 28 _ _ rfl i28 hi28 hs28 _ _ rfl _ rfl rfl hblkt (by omega) ?_; intro wu hwu; have hBu : Below wr.heap.size wr wu := (by rw [hwu.out, hwt.out.2]; exact (below_alloc _ _).setCell (p := ⟨gt, 4, none⟩) (by rw [hwt.out.1]; exact Nat.le_refl _) _); have HSU := hide (HS0.out.later hBu); have HCU := hide (HC0.out.later hBu); have HTU : Hid ((Tl.mk gt s (some j)).Ok wu gP) := hide (by rw [hwu.out]; exact HTT.out.give); have hbO := HSU.out.ob; clear hwu hwt hBu HSTt HTT hblkt hcp hcT HS0 HC0)
                  | (refine wpList_store_blk rfl 4 _ _ rfl i4 hi4 hs4 _ _ rfl _ rfl rfl hbO (by omega) ?_; intro wv hwv; have HSV : Hid (St w n gP gT gM gO nn (ownTo rs1 n) (fun i => OwnedBy allT (some i) ∨ i = j) fs fv av allT wv) := hide (by rw [hwv.out]; exact HSU.out.setO j hjn); have HCV : Hid (Cu w fs av ⟨fb, cv, cts⟩ wv) := hide (by rw [hwv.out]; exact HCU.out.setO hbO _ _); have HTV : Hid ((Tl.mk gt s (some j)).Ok wv gP) := hide (by rw [hwv.out]; exact HTU.out.setO hbO); have hcf := HCV.out.ok.cell; simp only at hcf; clear hwv HSU HCU HTU hbO)
                  | (at_builtin; refine wpList_append_Own Tl.enc rfl _ _ 30 rfl w.heap.size 56 i56 (.pointer none) 8 Try.underlying30 hi56 hz56 hs56 hb56 rfl (by omega) cv cts rfl (HCV.out.ok.own.later (below_alloc _ _)) ⟨gt, s, some j⟩ rfl _ rfl (cell_new _ _ _) (by omega) (Nat.le_trans HSV.out.x.below.size (by simp)) ?_; intro v5 w5 hown5 hgrow5 hat5; have hcur := St.cur (HSV.out.later (below_alloc _ _)) (HCV.out.later (below_alloc _ _)) hgrow5 hown5 hat5; have htc := Tl.Ok.cur (v' := v5) (HTV.out.later (below_alloc _ _)) (HCV.out.later (below_alloc _ _)) hgrow5; have hblk5 := hcur.1; have hv5 := Own.one hown5; have HCUR := hide hcur.2; have HTC := hide htc; clear hcur htc hown5 hgrow5 hat5)
                  | (refine wpList_store_blk rfl 30 _ _ rfl i30 hi30 hs30 _ _ rfl _ rfl hv5 hblk5 (by omega) ?_; intro w6 hw6; have HS6 := HCUR.out.1; have HC6 := HCUR.out.2; have HT6 := HTC.out; have e6 : w6 = w5.setCell ⟨fb, 9, none⟩ v5 := hw6.out; rw [← e6] at HS6 HC6 HT6; have HS6 := hide HS6; have HC6 := hide HC6; have HT6 := hide HT6; clear e6 hw6 hblk5 hv5 HCUR HTC)
                  | (at_builtin; refine wpList_append_Own Tl.enc rfl _ _ 30 rfl w.heap.size 56 i56 (.pointer none) 8 Try.underlying30 hi56 hz56 hs56 hb56 rfl (by omega) av allT rfl (HS6.out.all.later (below_alloc _ _)) ⟨gt, s, some j⟩ rfl _ rfl (cell_new _ _ _) (by omega) (Nat.le_trans HS6.out.x.below.size (by simp)) ?_; intro v8 w8 hown8 hgrow8 hat8; have hall8 := St.allUp (HS6.out.later (below_alloc _ _)) (HC6.out.later (below_alloc _ _)) (HT6.out.later (below_alloc _ _)) hgrow8 hown8 hat8; have HA8 := hide hall8; clear hall8 hown8 hgrow8 hat8))
                go_roundw
                case rel =>
                  refine ⟨v8, m + 1, allT ++ [⟨gt, s, some j⟩], cts ++ [⟨gt, s, some j⟩], v5, rfl, by omega, by go_num, ?_, HA8.out.2, HPT.out⟩
                  rw [ownedBy_some (t := ⟨gt, s, some j⟩) rfl]
                  exact HA8.out.1
                case measure => simp [intOf]; omega
            · obtain rfl : m = l2 := by omega
              have HS0 := hide hSt
              have HC0 := hide hCu
              have hPr := Pure.row (c := ⟨fb, cv, cts⟩) hPu (by rw [HROW2.out]; have := HOK2.out.len; simp only at this; omega)
              have HPR := hide hPr
              clear hSt hCu hPu hPr
              go_wp2_with (at_builtin; refine wpList_append_Own bptr rfl _ _ 29 rfl w.heap.size 24 i24 (.pointer none) 8 Try.underlying29 hi24 hz24 hs24 hb24 rfl (by omega) fv (fs.map FS.b) rfl (HS0.out.files.later (below_alloc _ _)) fb rfl _ rfl (cell_new _ _ _) (by rw [List.length_map]; omega) (Nat.le_trans HS0.out.x.below.size (by simp)) ?_; intro v8 w8 hown8 hgrow8 hat8; have hS8 := St.filesUp (c := ⟨fb, cv, cts⟩) (HS0.out.later (below_alloc _ _)) (HC0.out.later (below_alloc _ _)) hgrow8 hown8; have HS8 := hide hS8; clear hS8 hown8 hgrow8 hat8)
              go_roundw
              case rel => exact ⟨v8, av, k2 + 1, fs ++ [⟨fb, cv, cts⟩], allT, rfl, rfl, by omega, by go_num, HS8.out, HPR.out⟩
              case measure => simp [intOf]; omega
        · obtain rfl : n2 = k2 := by omega
          have hown := fun i => owner_iff (m := 0) (i := i) hPu (by have := H2.out.len; omega)
          have htl := hPu.tools
          rw [List.append_nil] at htl
          have hnd := hPu.nd
          have hfl : fs.length ≤ 1048576 := by rw [hPu.len]; omega
          have HOWN := hide hown
          have HTL := hide htl
          have HND := hide hnd
          clear hown htl hnd hPu
          cases single with
          | false =>
            obtain ⟨fa, cf, rfl, hrowF, hnilF, -⟩ := hSt.files.slice
            have HS0 := hide hSt
            have HRF := hide hrowF
            clear hSt hrowF hnilF
            go_wp2_with fail
            refine (newGraph fa _ _ cf n n wr).mono ?_
            rintro e w9 ⟨gG, rfl, hB9, h91, h93⟩
            have hG := gok_many HS0.out HOWN.out HTL.out HND.out (by omega) hfl hB9 (by rw [List.length_map]; exact h91) h93 HRF.out
            have HG := hide hG
            have HB9 := hide (HS0.out.x.below.trans (hB9.mono HS0.out.x.below.size))
            clear hG hB9 h91 h93
            go_wp2
            go_ret3
            exact ⟨gG, gP, _, _, rfl, HB9.out, HG.out⟩
          | true =>
            obtain ⟨aa, ac, rfl, hrowA, hnilA, -⟩ := hSt.all.slice
            have HS0 := hide hSt
            clear hSt hrowA hnilA
            go_wp2_with (refine wpList_box_hid rfl 32 _ rfl _ rfl ?_; intro wf fb hwf; have hStf : St w n gP gT gM gO nn (ownTo rs1 n) (fun j => OwnedBy allT (some j)) fs fv (.slice aa allT.length ac) allT wf := (by rw [hwf.out.2]; exact HS0.out.later (below_alloc _ _)); have hCuf : Cu w fs (.slice aa allT.length ac) ⟨fb, .slice none 0 0, []⟩ wf := (by rw [hwf.out.2, hwf.out.1]; exact HS0.out.newFile _ rfl rfl); clear hwf)
            go_loopw [26] (fun mi wx => ∃ q, ∃ cv : Value, q ≤ allT.length ∧ mi = .int .i64 ((q : Int) - 1) ∧ St w n gP gT gM gO nn (ownTo rs1 n) (fun j => OwnedBy allT (some j)) fs fv (.slice aa allT.length ac) allT wx ∧ Cu w fs (.slice aa allT.length ac) ⟨fb, cv, (allT.drop q).reverse⟩ wx) (fun mi _ => (intOf mi + 1).toNat)
            case atStart => exact ⟨allT.length, .slice none 0 0, Nat.le_refl _, by go_num, hStf, by rw [List.drop_length]; exact hCuf⟩
            case round =>
              clear hStf hCuf HS0
              obtain ⟨q, cv, hq, rfl, hSt, hCu⟩ := hrel
              cases q with
              | zero =>
                rw [List.drop_zero] at hCu
                have HS1 := hide hSt
                have HC1x := hide hCu
                clear hSt hCu
                go_wp2_with fail
                refine (newGraph (some ⟨wr.heap.size, 0, none⟩) _ 1 1 n n _).mono ?_
                rintro e w9 ⟨gG, rfl, hB9, h91, h93⟩
                have hF : w9.cell? ⟨wr.heap.size, 0, none⟩ = some (bptr fb) := by
                  rw [hB9.cell (p := ⟨wr.heap.size, 0, none⟩) (by simp)]
                  exact cell_new _ _ _
                have hG := gok_one (HS1.out.later (below_alloc _ _)) (HC1x.out.later (below_alloc _ _)) HOWN.out rfl HND.out (by omega) hB9 hF h91 h93
                have HG := hide hG
                have HB9 := hide ((HS1.out.x.below.alloc HS1.out.x.below.size _).trans (hB9.mono (Nat.le_trans HS1.out.x.below.size (by simp))))
                clear hG hB9 h91 h93 hF
                go_wp2
                go_ret3
                exact ⟨gG, gP, _, _, rfl, HB9.out, HG.out⟩
              | succ q =>
                obtain ⟨t, htq⟩ := get_of_lt (xs := allT) (j := q) (by omega)
                obtain ⟨ao', c', e', hrowA, -⟩ := hSt.all.slice
                simp only [Value.slice.injEq, true_and] at e'
                obtain ⟨rfl, rfl⟩ := e'
                obtain ⟨ab, aoff, rfl, hcellA⟩ := hrowA.at htq
                unfold Tl.enc at hcellA
                have hdr : (allT.drop q).reverse = (allT.drop (q + 1)).reverse ++ [t] := by
                  rw [List.drop_eq_getElem_cons (by omega)]
                  have : allT[q] = t := by rw [List.getElem?_eq_getElem (by omega)] at htq; simpa using htq
                  rw [this]; simp
                have HDR := hide hdr
                have hcf := hCu.ok.cell
                have hff := hCu.ok.blk.free 9
                simp only at hcf hff
                have hcf2 := ((below_alloc wr (.cells #[.pointer (some ⟨t.b, 0, none⟩)] 56)).cell (p := ⟨fb, 9, none⟩) (lt_of_cell hcf)).trans hcf
                have hq1 : (q : Int) < (allT.length : Int) := by omega
                have hq2 : ((q : Int) + 1 - 1) = (q : Int) := by omega
                have hlC : (allT.drop (q + 1)).reverse.length ≤ 65536 := by simp; omega
                have HS1 := hide hSt
                have HC1x := hide hCu
                clear hSt hCu hrowA htq hdr
                go_wp2
                go_region_law (refine step_append_Own Tl.enc rfl (.tmp 163) (.tmp 168) 30 rfl w.heap.size 56 i56 (.pointer none) 8 Try.underlying30 hi56 hz56 hs56 hb56 rfl (by omega) cv ((allT.drop (q + 1)).reverse) (by simp [Act.eval]) (HC1x.out.ok.own.later (below_drew (below_alloc _ _))) t rfl _ (by simp [Act.eval]) (cell_new _ _ _) (by omega) (Nat.le_trans HS1.out.x.below.size (by simp)) ?_; intro v5 w5 hown5 hgrow5 hat5; have hcur := St.cur (HS1.out.later (below_drew (below_alloc _ _))) (HC1x.out.later (below_drew (below_alloc _ _))) hgrow5 hown5 hat5; have hblk5 : Blk w5 fb 32 10 := hcur.1; obtain ⟨v0, hv0⟩ := hblk5.cell (show 9 < 10 by decide); have hf0 := hblk5.free 9; obtain ⟨ao5, c5, e5, -⟩ := hown5.slice; generalize ((allT.drop (q + 1)).reverse ++ [t]).length = L5 at e5; subst e5; have HCUR := hide hcur.2; clear hcur hown5 hgrow5 hat5 hblk5)
                all_goals
                  go_wp2
                  go_roundw
                  case rel =>
                    refine ⟨q, .slice ao5 L5 c5, by omega, by go_num, HCUR.out.1, ?_⟩
                    rw [HDR.out]
                    exact HCUR.out.2
                  case measure => simp [intOf]

end Go.Proofs.Qxb6605700a
