import Derived.Test.Qxb6605700aTools
namespace Go.Proofs.Qxb6605700a
open Go.ChangeShapes Go.WideShapes Go.ChangeAt Go.RowKit
set_option linter.unusedVariables false

theorem PMap.ne {w : World} {g m : Nat} {S : Option Nat → Prop} (h : PMap w g m S) {a : Addr} {v : Value} (hc : w.cell? a = some v) : some a.block ≠ some m := by
  obtain ⟨es, c, hb, _⟩ := h
  intro e
  simp at e
  simp [World.cell?, e, hb] at hc
theorem PMap.blkNe {w : World} {g m b t k : Nat} {S : Option Nat → Prop} (h : PMap w g m S) (hc : Blk w b t k) : some b ≠ some m := by
  obtain ⟨es, c, hb, _⟩ := h
  obtain ⟨cs, hb', _⟩ := hc
  intro e
  simp at e
  rw [e, hb] at hb'
  simp at hb'

/-- Some tool of ts is owned by q. -/
def OwnedBy (ts : List Tl) (q : Option Nat) : Prop := ∃ t ∈ ts, t.pkg = q
theorem ownedBy_snoc {ts : List Tl} {t : Tl} : (fun q => OwnedBy ts q ∨ q = t.pkg) = OwnedBy (ts ++ [t]) := by
  funext q
  simp only [OwnedBy, List.mem_append, List.mem_singleton, eq_iff_iff]
  constructor
  · rintro (⟨x, hx, h⟩ | rfl)
    · exact ⟨x, .inl hx, h⟩
    · exact ⟨t, .inr rfl, rfl⟩
  · rintro ⟨x, hx | rfl, h⟩
    · exact .inl ⟨x, hx, h⟩
    · exact .inr h.symm
theorem ownedBy_nil : (fun _ => False) = OwnedBy [] := by
  funext q
  simp [OwnedBy]

set_option maxRecDepth 100000 in
set_option maxHeartbeats 4000000 in
theorem toolPackages (g gG nf cf n pc : Nat) (fa pa : Option Addr) (fs : List Fl) (f : Nat → Bool) (w : World) (hlen : fs.length = nf) (hG : w.cell? ⟨gG, 1, none⟩ = some (.slice fa nf cf)) (hG3 : w.cell? ⟨gG, 3, none⟩ = some (.slice pa n pc))
    (hrow : Row Fl.enc w fa fs) (hok : ∀ f ∈ fs, f.Ok w g) (hnd : ((allTools fs).map Tl.b).Nodup) (hall : (allTools fs).length ≤ 1048576) (hn : nf ≤ 1048576) (hp : Row (PP g) w pa (List.range n)) (hnn : n ≤ 1048576) (hf : ∀ i, f i = true ↔ OwnedBy (allTools fs) (some i)) :
    Calls Try.prog 15 #[.pointer (some ⟨gG, 0, none⟩)] w fun e w' => ∃ ao c, e = .returned (.slice ao ((List.range n).filter f).length c) ∧ Below w.heap.size w w' ∧ Row (PP g) w' ao ((List.range n).filter f) := by
  have hmm := @run_makeMap Try.prog
  have hB1 : Below w.heap.size w (w.alloc (.map #[] 0)) := below_alloc _ _
  have ht := tools g gG nf cf fa fs (w.alloc (.map #[] 0)) hlen (by rw [hB1.cell (p := ⟨gG, 1, none⟩) (lt_of_cell hG)]; exact hG) (hrow.later hB1) (fun f hf => (hok f hf).later hB1) hnd hall hn
  have hPM := PMap.made w g
  have HT := hide ht
  have HPM := hide hPM
  have HP := hide hp
  have HF := hide hf
  have HG3 := hide hG3
  have HB1 := hide hB1
  have HALL := hide hall
  clear ht hPM hp hf hG3 hG hrow hok hnd hB1 hall
  go_enter Try.func15, Try.ntmps15
  go_wp2_with fail
  refine HT.out.mono ?_
  rintro e w2 ⟨ao, c, ts, rfl, hperm, hB2, hrow, hok⟩
  have hPM2 := HPM.out.later hB2
  have HPM2 := hide hPM2
  have HR := hide hrow
  have HK := hide hok
  have HPE := hide hperm
  have hlts : ts.length ≤ 1048576 := by rw [hperm.length_eq]; exact HALL.out
  have hsz : w.heap.size < w2.heap.size := hPM2.lt
  have HB := hide (below_then HB1.out hB2)
  clear hPM2 hrow hok hperm hB2 HT HPM
  go_wp2
  go_loopw [10] (fun i wr => ∃ k : Nat, k ≤ ts.length ∧ i = .int .i64 k ∧ w2.grownBy wr (some w.heap.size) ∧ PMap wr g w.heap.size (OwnedBy (ts.take k))) (fun i _ => ts.length - (intOf i).toNat)
  case atStart => exact ⟨0, Nat.zero_le _, rfl, ⟨rfl, rfl, rfl, Nat.le_refl _, fun _ _ _ => rfl⟩, by rw [List.take_zero, ← ownedBy_nil]; exact HPM2.out⟩
  case round =>
    obtain ⟨k, hk, rfl, hgr, hPM⟩ := hrel
    by_cases hkn : k < ts.length
    · obtain ⟨t, htk⟩ := get_of_lt (xs := ts) (j := k) hkn
      obtain ⟨b, off, rfl, hcell⟩ := HR.out.at htk
      have hcw := hgr.cell hcell (HPM2.out.ne hcell)
      have hto := HK.out t (List.mem_of_getElem? htk)
      have htp := hgr.cell hto.pkg (HPM2.out.ne hto.pkg)
      have hst : ts.take (k + 1) = ts.take k ++ [t] := by rw [List.take_add_one, htk]; rfl
      have HST := hide hst
      have HPM3 := hide hPM
      have HGR := hide hgr
      unfold Tl.enc at hcw
      have hkn' : (k : Int) < (ts.length : Int) := by omega
      clear hcell htk hst hto hPM hgr
      obtain ⟨tb, tpath, tpkg⟩ := t
      simp only at htp hcw
      cases tpkg with
      | none =>
        unfold K at htp
        go_wp2_with (at_mapUpdate; refine wpList_mapUpdate_K _ rfl _ _ _ rfl g w.heap.size _ rfl HPM3.out none rfl rfl ?_; intro w3 hPM4 hgr4)
        go_roundw
        case rel =>
          refine ⟨k + 1, by omega, by go_num, HGR.out.trans hgr4, ?_⟩
          rw [HST.out, ← ownedBy_snoc]
          exact hPM4
        case measure => simp [intOf]; omega
      | some i =>
        unfold K at htp
        go_wp2_with (at_mapUpdate; refine wpList_mapUpdate_K _ rfl _ _ _ rfl g w.heap.size _ rfl HPM3.out (some i) rfl rfl ?_; intro w3 hPM4 hgr4)
        go_roundw
        case rel =>
          refine ⟨k + 1, by omega, by go_num, HGR.out.trans hgr4, ?_⟩
          rw [HST.out, ← ownedBy_snoc]
          exact hPM4
        case measure => simp [intOf]; omega
    · obtain rfl : k = ts.length := by omega
      rw [List.take_length] at hPM
      have hBr : Below w.heap.size w wr := HB.out.grown hgr (by omega) (by intro k hk; cases hk; exact Nat.le_refl _)
      have hin := inRecordOrder gG g w.heap.size n pc pa (OwnedBy ts) f wr (fun i => by
        rw [HF.out i]
        constructor
        · rintro ⟨t, ht, e⟩; exact ⟨t, HPE.out.mem_iff.2 ht, e⟩
        · rintro ⟨t, ht, e⟩; exact ⟨t, HPE.out.mem_iff.1 ht, e⟩) (by rw [hBr.cell (p := ⟨gG, 3, none⟩) (lt_of_cell HG3.out)]; exact HG3.out) (HP.out.later hBr) hPM hnn
      have HIN := hide hin
      have HBR := hide hBr
      clear hin hBr hgr hPM
      go_wp2_with fail
      refine HIN.out.mono ?_
      rintro e w3 ⟨v, rfl, hB3, hown⟩
      obtain ⟨ao', c', rfl, hrow', hnil, -⟩ := hown.slice
      go_wp2
      go_ret
      exact ⟨ao', c', rfl, below_then HBR.out hB3, hrow'⟩

end Go.Proofs.Qxb6605700a
