import Derived.Test.Qxb6605859aFmtAllow2
namespace Go.Proofs.Qxb6605859aFmt
open Go.ChangeShapes Go.WideShapes Go.ChangeAt Go.RowKit
open Go.Extern.Stop Go.Stop Go.Extern
set_option linter.unusedVariables false

def Small2 (l0 l3 l4 rs lw n : Nat) : Prop := l0 ≤ 1048576 ∧ l3 ≤ 1048576 ∧ l4 ≤ 1048576 ∧ rs ≤ 1048576 ∧ lw ≤ 524288 ∧ n ≤ 32768

set_option maxRecDepth 100000 in
set_option maxHeartbeats 4000000 in
theorem allow_big (F : Interp) (a0 a3 a4 ao aw : Option Addr) (l0 c0 n cn l3 c3 l4 c4 lw cw : Nat) (z0 z3 z4 az : List Int) (t : Int) (r : ByteArray) (E : Nat → Ent) (w : World) (hF : F.answers w.tape)
    (h0 : In8 w a0 l0 c0 z0) (h3 : In8 w a3 l3 c3 z3) (h4 : In8 w a4 l4 c4 z4) (hw : In16 w aw lw cw az) (hE : Ents w ao n E) (hu : ∀ i, i < n → U16 (E i).ez) (hnil : ao = none → n = 0 ∧ cn = 0) (hn : n ≤ 9223372036854775807) (hr : r.size ≤ 9223372036854775807) (hbig : ¬ Small2 l0 l3 l4 r.size lw n) :
    Calls Tryf.prog 4 #[.slice a0 l0 c0, .slice ao n cn, .int .u16 t, .slice a3 l3 c3, .slice a4 l4 c4, .slice aw lw cw, .string r] w fun e w' => e = .returned (.bool true) ∧ Below w.heap.size w w' := by
  have hm0 := h0.max
  have hm3 := h3.max
  have hm4 := h4.max
  have hmw := hw.max
  have hbig' : 1048576 < l0 ∨ 1048576 < l3 ∨ 1048576 < l4 ∨ 1048576 < r.size ∨ 524288 < lw ∨ 32768 < n := by unfold Small2 at hbig; omega
  clear hF hnil hbig hu
  have hB0 : Below w.heap.size w (w.alloc (.cells #[.slice aw lw cw] 29)) := (Below.refl _ _).alloc (Nat.le_refl _) _
  have hE0 := hE.later hB0
  clear h0 h3 h4 hE hw
  go_enter Tryf.func4, Tryf.ntmps4
  go_wp2_with fail
  refine (bytes12_any _ _ _ _ _ _ _ _ _ _ _ _ _ _ _ _ _ E _ hE0 hn).mono ?_
  rintro e w' ⟨⟨b, rfl⟩, rfl⟩
  cases b with
  | false =>
    go_wp2
    go_ret
    exact ⟨rfl, hB0⟩
  | true =>
    go_wp2_with fail
    all_goals first | (go_ret; exact ⟨rfl, hB0⟩) | (exfalso; omega)

set_option maxRecDepth 100000 in
set_option maxHeartbeats 8000000 in
theorem allow_small (F : Interp) (a0 a3 a4 ao aw : Option Addr) (l0 c0 n cn l3 c3 l4 c4 lw cw : Nat) (z0 z3 z4 az : List Int) (t : Int) (r : ByteArray) (E : Nat → Ent) (w : World) (hF : F.answers w.tape)
    (h0 : In8 w a0 l0 c0 z0) (h3 : In8 w a3 l3 c3 z3) (h4 : In8 w a4 l4 c4 z4) (hw : In16 w aw lw cw az) (hE : Ents w ao n E) (hu : ∀ i, i < n → U16 (E i).ez) (hnil : ao = none → n = 0 ∧ cn = 0) (hn : n ≤ 9223372036854775807) (hr : r.size ≤ 9223372036854775807) (hs : Small2 l0 l3 l4 r.size lw n) :
    Calls Tryf.prog 4 #[.slice a0 l0 c0, .slice ao n cn, .int .u16 t, .slice a3 l3 c3, .slice a4 l4 c4, .slice aw lw cw, .string r] w fun e w' => e = .returned (.bool true) ∧ Below w.heap.size w w' := by
  obtain ⟨hs0, hs3, hs4, hsr, hsw, hsn⟩ := hs
  have hd0 : decide (1048576 < (l0 : Int)) = false := by simp; omega
  have hd3 : decide (1048576 < (l3 : Int)) = false := by simp; omega
  have hd4 : decide (1048576 < (l4 : Int)) = false := by simp; omega
  have hdr : decide (1048576 < (r.size : Int)) = false := by simp; omega
  have hdw : decide (524288 < (lw : Int)) = false := by simp; omega
  have hdn : decide (32768 < (n : Int)) = false := by simp; omega
  have HF := hide hF
  have HN := hide hnil
  have HU := hide hu
  clear hF hnil hu
  have hB : Below w.heap.size w (w.alloc (.cells #[.slice aw lw cw] 29)) := (Below.refl _ _).alloc (Nat.le_refl _) _
  replace hE := hE.later hB
  replace h0 := h0.later hB
  replace h3 := h3.later hB
  replace h4 := h4.later hB
  replace hw := hw.later hB
  have hblk : Blk (w.alloc (.cells #[.slice aw lw cw] 29)) w.heap.size 29 1 := ⟨_, heap_alloc_new _ _, rfl⟩
  have hcl : (w.alloc (.cells #[.slice aw lw cw] 29)).cell? ⟨w.heap.size, 0, none⟩ = some (.slice aw lw cw) := by simp
  have HC := hide hcl
  clear hcl
  obtain ⟨z, hz⟩ : ∃ z, z = ebSum n E := ⟨_, rfl⟩
  have hzs : Sized n E z := by rw [hz]; exact ebSum_sized n E
  have hzb : 0 ≤ z ∧ z ≤ 2621440 := by
    rcases hzs with h | ⟨h1, h2, _⟩ <;> omega
  have HZ := hide hzs
  have HZE := hide hz
  clear hzs hz
  go_enter Tryf.func4, Tryf.ntmps4
  go_wp2_with fail
  refine (bytes12_any _ _ _ _ _ _ _ _ _ _ _ _ _ _ _ _ _ E _ hE hn).mono ?_
  rintro e w' ⟨⟨b, rfl⟩, rfl⟩
  cases b with
  | false =>
    go_wp2
    go_ret
    exact ⟨rfl, hB⟩
  | true =>
    go_wp2_with fail
    by_cases hbig : 1048576 < (l0 : Int) + (l3 : Int) + (l4 : Int) + (r.size : Int) + 2 * (lw : Int) + z
    · go_quiet ((go_at_call 6; refine Calls.quiet_of_same (v := .int .i64 z) ?_; rw [HZE.out]; exact entriesSum _ _ _ E _ (hE.later (below_drewN (Below.refl _ _) _)) hn))
      go_wp2
      go_ret
      exact ⟨rfl, below_drewN hB _⟩
    · have hdz : decide (1048576 < (l0 : Int) + (l3 : Int) + (l4 : Int) + (r.size : Int) + 2 * (lw : Int) + z) = false := by simp; omega
      have hsm : Smalls n E := by
        rcases HZ.out with h | ⟨_, _, _, h⟩
        · omega
        · exact h
      clear HZ hbig
      go_quiet ((go_at_call 6; refine Calls.quiet_of_same (v := .int .i64 z) ?_; rw [HZE.out]; exact entriesSum _ _ _ E _ (hE.later (below_drewN (Below.refl _ _) _)) hn))
      have hBd : Below (w.alloc (.cells #[.slice aw lw cw] 29)).heap.size (w.alloc (.cells #[.slice aw lw cw] 29)) ((w.alloc (.cells #[.slice aw lw cw] 29)).drewN nq) := below_drewN (Below.refl _ _) _
      replace hE := hE.later hBd
      replace h0 := h0.later hBd
      replace h3 := h3.later hBd
      replace h4 := h4.later hBd
      replace hw := hw.later hBd
      replace hblk := hblk.later hBd
      have hc1 : ((w.alloc (.cells #[.slice aw lw cw] 29)).drewN nq).cell? ⟨w.heap.size, 0, none⟩ = some (.slice aw lw cw) := HC.out
      replace hB := below_then hB hBd
      clear HC hBd HZE
      have HC := hide hc1
      clear hc1
      go_wp2_with fail
      refine (clone8 _ _ _ z0 _ h0.len h0.row h0.nil (by omega)).mono ?_
      rintro e w1 ⟨b0, rfl, hB1, hr0, hn0⟩
      replace hE := hE.later hB1
      replace h3 := h3.later hB1
      replace h4 := h4.later hB1
      replace hw := hw.later hB1
      replace hblk := hblk.later hB1
      have hc1 := (hB1.cell (p := ⟨w.heap.size, 0, none⟩) (lt_of_cell HC.out)).trans HC.out
      replace hB := below_then hB hB1
      clear h0 hr0 hn0 hB1 HC
      have HC := hide hc1
      clear hc1
      go_wp2_with fail
      refine (cloneEntsB _ _ _ E _ hE HN.out hsn hsm).mono ?_
      rintro e w2 ⟨b1, E', rfl, hB2, hE', hn1, hez⟩
      have hu' : ∀ i, i < n → U16 (E' i).ez := fun i hi => by rw [hez i hi]; exact HU.out i hi
      have hl' : ∀ i, i < n → (E' i).ez.length ≤ 1048576 := fun i hi => by
        rw [hez i hi]
        obtain ⟨_, _, _, _, _, ok⟩ := hE.at hi
        rw [ok.elen]
        exact (hsm i hi).2
      have hlt1 : w.heap.size < w1.heap.size := hblk.lt
      replace h3 := h3.later hB2
      replace h4 := h4.later hB2
      replace hw := hw.later hB2
      replace hblk := hblk.later hB2
      have hc1 := (hB2.cell (p := ⟨w.heap.size, 0, none⟩) (lt_of_cell HC.out)).trans HC.out
      replace hB := below_then hB hB2
      have HU' := hide hu'
      have HL' := hide hl'
      clear hE hsm HN hB2 HC hez HU hu' hl'
      have HC := hide hc1
      clear hc1
      go_wp2_with fail
      refine (clone8 _ _ _ z3 _ h3.len h3.row h3.nil (by omega)).mono ?_
      rintro e w3 ⟨b3, rfl, hB3, hr0, hn0⟩
      replace hE' := hE'.later hB3
      replace h4 := h4.later hB3
      replace hw := hw.later hB3
      replace hblk := hblk.later hB3
      have hc1 := (hB3.cell (p := ⟨w.heap.size, 0, none⟩) (lt_of_cell HC.out)).trans HC.out
      replace hB := below_then hB hB3
      clear h3 hr0 hn0 hB3 HC
      have HC := hide hc1
      clear hc1
      go_wp2_with fail
      refine (clone8 _ _ _ z4 _ h4.len h4.row h4.nil (by omega)).mono ?_
      rintro e w4 ⟨b4, rfl, hB4, hr0, hn0⟩
      replace hE' := hE'.later hB4
      replace hw := hw.later hB4
      replace hblk := hblk.later hB4
      have hc1 := (hB4.cell (p := ⟨w.heap.size, 0, none⟩) (lt_of_cell HC.out)).trans HC.out
      replace hB := below_then hB hB4
      clear h4 hr0 hn0 hB4 HC
      have HN1 := hide hn1
      clear hn1
      go_wp2_with fail
      refine (clone16 _ _ _ az _ hw.len hw.row hw.nil (by omega)).mono ?_
      rintro e w5 ⟨b5, rfl, hB5, hr5, hn5⟩
      have hlt4 : w.heap.size < w4.heap.size := hblk.lt
      replace hE' := hE'.later hB5
      replace hblk := hblk.later hB5
      have hc5 := (hB5.cell (p := ⟨w.heap.size, 0, none⟩) (lt_of_cell hc1)).trans hc1
      have hf5 := hblk.free 0
      replace hB := below_then hB hB5
      have HAL := hide hw.len
      have HAU := hide hw.bnd
      -- behind the store into the variable
      have hE6 := hE'.setCell (o := 0) hlt1 (.slice b5 lw lw)
      have hr6 := (hr5.setCell (a := ⟨w.heap.size, 0, none⟩) hlt4 (.slice b5 lw lw)).mono (Nat.zero_le _)
      have hB6 := hB.setCell (p := ⟨w.heap.size, 0, none⟩) (Nat.le_refl _) (.slice b5 lw lw)
      have hc6 := set_same (u := .slice b5 lw lw) hc5
      clear hB5 hr5 hn5 hE' hblk hB hw hc1
      obtain ⟨i0, hi, hz0, hz1, hz2⟩ := info_parts info4
      go_wp2_with (at_make; refine wpList_make_full _ rfl _ _ 40 rfl w5.heap.size 4 i0 (.bool false) 1 Tryf.underlying40 hi hz0 hz1 _ _ _ _ 65536 rfl rfl rfl rfl (by rw [hz2]; omega) (by unfold maxLen; omega) (by simp) ?_; intro w7 hown hgrow; have hb7 := (block_of_owns hown).1; clear hown)
      clear hi hz0 hz1 hz2 hc5 hf5 hlt4 hlt1
      have hsz : (w5.setCell ⟨w.heap.size, 0, none⟩ (.slice b5 lw lw)).heap.size = w5.heap.size := by simp
      rw [hsz] at hb7
      have hFL := FLoop.start (az := az) hsz hgrow hb7
      clear hb7 hgrow
      generalize w5.setCell ⟨w.heap.size, 0, none⟩ (.slice b5 lw lw) = w6 at *
      generalize w5.heap.size = gI at *
      have hglt : w.heap.size < gI := by rw [← hsz]; exact lt_of_cell hc6
      have HSZ := hide hsz
      have HR6 := hide hr6
      have HC6 := hide hc6
      have HE6 := hide hE6
      have HB6 := hide hB6
      clear hsz hr6 hc6 hE6 hB6
      go_loopw [16] (fun i wr => ∃ k : Nat, k ≤ lw ∧ i = .int .i64 k ∧ FLoop w6 gI az k wr) (fun i _ => lw - (intOf i).toNat)
      case atStart => exact ⟨0, Nat.zero_le _, rfl, hFL⟩
      case round =>
        clear hFL
        obtain ⟨k, hk, rfl, hL⟩ := hrel
        have hbox : wr.cell? ⟨w.heap.size, 0, none⟩ = some (.slice b5 lw lw) := (hL.below.cell (p := ⟨w.heap.size, 0, none⟩) hglt).trans HC6.out
        by_cases hlt : k < lw
        · obtain ⟨xb, xo, rfl, hcx⟩ := HR6.out.at (j := k) (by rw [HAL.out]; exact hlt)
          have hxlt : xb < gI := by have := lt_of_cell hcx; rw [HSZ.out] at this; exact this
          have hbd := HAU.out.at (j := k) (by rw [HAL.out]; exact hlt)
          obtain ⟨a, ha⟩ := Int.eq_ofNat_of_zero_le hbd.1
          have ha2 : a < 65536 := by omega
          rw [ha] at hcx
          have hcw := (hL.below.cell (p := ⟨xb, xo + k, none⟩) hxlt).trans hcx
          have hva := hL.val a ha2
          have hfa := hL.blk.free a
          have hN := hL.next (by rw [HAL.out]; exact hlt) ha ha2
          have hlt' : (k : Int) < (lw : Int) := by omega
          have ha' : (a : Int) < 65536 := by omega
          have ha0 : (0 : Int) ≤ (a : Int) := by omega
          clear hL hbd ha hcx ha2
          go_wp2
          go_roundw
          case rel => exact ⟨k + 1, by omega, by go_num, hN⟩
          case measure => simp [intOf]; omega
        · obtain rfl : k = lw := by omega
          have hbr : Below w6.heap.size w6 wr := by rw [HSZ.out]; exact hL.below
          have hEr := HE6.out.ents.later hbr
          have hrow := HR6.out.later hbr
          have hBw := below_then HB6.out hbr
          have hval : ∀ v : Nat, v < 65536 → wr.cell? ⟨gI, v, none⟩ = some (.bool (inB az (v : Int))) := fun v hv => by
            have := hL.val v hv
            rw [List.take_of_length_le (by rw [HAL.out]; exact Nat.le_refl _)] at this
            exact this
          have HER := hide hEr
          have HROW := hide hrow
          have HBW := hide hBw
          have HVAL := hide hval
          have HBOX := hide hbox
          clear hbr hEr hrow hBw hval hL HE6 HR6 HB6 HC6 HSZ
          go_wp2_with fail
          go_loop [17, 18] (fun s i => OutC az E' n s i) (fun _ i => n - (intOf i).toNat)
          case atStart => exact ⟨0, 0, Nat.zero_le _, rfl, rfl, cnt_nil az⟩
          case round =>
            obtain ⟨k2, q, hk2, rfl, rfl, hT⟩ := hrel
            by_cases hlt : k2 < n
            · obtain ⟨eb, eo, rfl, e0, e1, hok⟩ := HER.out.at hlt
              have hlt' : (k2 : Int) < (n : Int) := by omega
              have hrow := hok.erow
              have hel := hok.elen
              have hem := hok.emax
              have hpl := pre_len HL'.out k2 (by omega)
              have hez1 := HL'.out k2 hlt
              have hez2 := HU'.out k2 hlt
              obtain ⟨ez, hez⟩ : ∃ ez, ez = (E' k2).ez := ⟨_, rfl⟩
              rw [← hez] at hrow hel hez1 hez2
              have HEZ := hide hez
              clear hez hok e0
              generalize (E' k2).ea = ea at *
              generalize (E' k2).el = el at *
              generalize (E' k2).ec = ec at *
              have HEL := hide hel
              have HT := hide hT
              have HROW2 := hide hrow
              have HUZ := hide hez2
              clear hel hT hrow hez2
              go_wp2_with fail
              go_loop [17, 20] (fun s i => InC az (pre E' k2) ez s i) (fun _ i => ez.length - (intOf i).toNat)
              case atStart => exact ⟨0, q, Nat.zero_le _, rfl, rfl, by simpa using HT.out⟩
              case round =>
                clear HT
                obtain ⟨j, q2, hj, rfl, rfl, hT2⟩ := hrel
                have hq2 : 0 ≤ q2 ∧ q2 ≤ 68719476736 := by
                  obtain ⟨h1, h2, _⟩ := hT2
                  rw [List.length_append, List.length_take] at h2
                  omega
                rw [HEL.out] at hj
                by_cases hjl : j < el
                · obtain ⟨xb, xo, rfl, hcell⟩ := HROW2.out.at (j := j) (by rw [HEL.out]; exact hjl)
                  have hsn2 := take_snoc ez j (by rw [HEL.out]; exact hjl)
                  have hbd := HUZ.out.at (j := j) (by rw [HEL.out]; exact hjl)
                  obtain ⟨x, hx⟩ := Int.eq_ofNat_of_zero_le hbd.1
                  have hx2 : x < 65536 := by omega
                  rw [hx] at hcell hsn2
                  have hvx := HVAL.out x hx2
                  have HS : Hid (pre E' k2 ++ ez.take (j + 1) = (pre E' k2 ++ ez.take j) ++ [(x : Int)]) := by
                    show _ = _
                    rw [hsn2, List.append_assoc]
                  have hjl' : (j : Int) < (el : Int) := by omega
                  have hx' : (x : Int) < 65536 := by omega
                  have hx0 : (0 : Int) ≤ (x : Int) := by omega
                  clear hx hsn2 hbd hx2
                  cases hin : inB az (x : Int) with
                  | true =>
                    have hnew := cnt_in hT2 hin
                    rw [← HS.out] at hnew
                    rw [hin] at hvx
                    clear hT2 hin
                    go_wp2
                    go_round
                    case rel => exact ⟨j + 1, q2, by rw [HEL.out]; omega, rfl, by go_num, hnew⟩
                    case measure => simp [intOf]; have := HEL.out; omega
                  | false =>
                    have hnew := cnt_out hT2 hin
                    rw [← HS.out] at hnew
                    rw [hin] at hvx
                    clear hT2 hin
                    go_wp2
                    go_round
                    case rel => exact ⟨j + 1, q2 + 1, by rw [HEL.out]; omega, rfl, by go_num, hnew⟩
                    case measure => simp [intOf]; have := HEL.out; omega
                · have hnew : Cnt az (pre E' (k2 + 1)) q2 := by
                    rw [pre_succ, ← HEZ.out]
                    rw [List.take_of_length_le (by rw [HEL.out]; omega)] at hT2
                    exact hT2
                  clear hT2
                  go_wp2
                  go_round
                  case rel => exact ⟨k2 + 1, q2, by omega, rfl, by go_num, hnew⟩
                  case measure => simp [intOf]; omega
            · obtain rfl : k2 = n := by omega
              obtain ⟨hq0, hq1, hq2⟩ := hT
              by_cases hqz : q = 0
              · have hall : AllOk (inB az) E' k2 := all_in.2 (hq2.1 hqz)
                subst hqz
                clear hq0 hq1 hq2
                go_wp2_with fail
                refine (auth_any _ _ _ _ _ _ _ _ _ _ _ _ E' _ HER.out HN1.out hsn).mono ?_
                rintro e w8 ⟨gm, ae, rfl, hB8, hm8, hE8⟩
                have hbox8 := (hB8.cell (p := ⟨w.heap.size, 0, none⟩) (lt_of_cell HBOX.out)).trans HBOX.out
                have hrow8 := HROW.out.later hB8
                have HF8 : Hid (F.answers w8.tape) := by
                  have e : w8.tape = w.tape := (below_then HBW.out hB8).tape
                  show F.answers w8.tape
                  rw [e]; exact HF.out
                have hBe := below_then HBW.out hB8
                have HC8 := hide hbox8
                have HR8 := hide hrow8
                have HM8 := hide hm8
                have HE8 := hide hE8
                clear hB8 hbox8 hrow8 hm8 hE8 HER HN1 HBOX HROW HBW
                go_wp2_with (first | (go_at_call 10; go_in) | fail)
                refine (check14 F gm w.heap.size ae k2 r (inB az) E' _ HF8.out (fun t w' hw => closure14 az t _ _ _ w' ((hw.cell (p := ⟨w.heap.size, 0, none⟩) (lt_of_cell HC8.out)).trans HC8.out) (HR8.out.later hw) HAL.out (by omega)) HM8.out HE8.out hsn).mono ?_
                rintro e w9 ⟨hans, hB9⟩
                obtain rfl := ans_nil hans hall
                have hbox9 := (hB9.cell (p := ⟨w.heap.size, 0, none⟩) (lt_of_cell HC8.out)).trans HC8.out
                have hrow9 := HR8.out.later hB9
                have hm9 := (hB9.cell (p := ⟨gm, 1, none⟩) (lt_of_cell HM8.out)).trans HM8.out
                have hE9 := HE8.out.later hB9
                have HF9 : Hid (F.answers w9.tape) := by
                  have e : w9.tape = w8.tape := hB9.tape
                  show F.answers w9.tape
                  rw [e]; exact HF8.out
                replace hBe := below_then hBe hB9
                have HC9 := hide hbox9
                have HR9 := hide hrow9
                have HM9 := hide hm9
                have HE9 := hide hE9
                clear hB9 hbox9 hrow9 hm9 hE9 HC8 HR8 HM8 HE8 HF8 hans
                go_wp2_with (first | (go_at_call 10; go_in) | fail)
                refine (check15 F gm w.heap.size ae k2 _ (inB az) E' _ HF9.out (fun t w' hw => closure15 az t _ _ _ w' ((hw.cell (p := ⟨w.heap.size, 0, none⟩) (lt_of_cell HC9.out)).trans HC9.out) (HR9.out.later hw) HAL.out (by omega)) HM9.out HE9.out hsn).mono ?_
                rintro e w10 ⟨hans2, hB10⟩
                obtain rfl := ans_nil hans2 hall
                have hBf := below_then hBe hB10
                clear hans2 HC9 HR9 HM9 HE9 HF9 hBe hB10
                go_wp2
                go_ret
                exact ⟨rfl, hBf⟩
              · have hall : ¬ AllOk (inB az) E' k2 := fun h => hqz (hq2.2 (all_in.1 h))
                have hpos : 0 < q := by omega
                clear hq0 hq1 hq2 hqz
                go_wp2_with fail
                refine (auth_any _ _ _ _ _ _ _ _ _ _ _ _ E' _ HER.out HN1.out hsn).mono ?_
                rintro e w8 ⟨gm, ae, rfl, hB8, hm8, hE8⟩
                have hbox8 := (hB8.cell (p := ⟨w.heap.size, 0, none⟩) (lt_of_cell HBOX.out)).trans HBOX.out
                have hrow8 := HROW.out.later hB8
                have HF8 : Hid (F.answers w8.tape) := by
                  have e : w8.tape = w.tape := (below_then HBW.out hB8).tape
                  show F.answers w8.tape
                  rw [e]; exact HF.out
                have hBe := below_then HBW.out hB8
                have HC8 := hide hbox8
                have HR8 := hide hrow8
                have HM8 := hide hm8
                have HE8 := hide hE8
                clear hB8 hbox8 hrow8 hm8 hE8 HER HN1 HBOX HROW HBW
                go_wp2_with (first | (go_at_call 10; go_in) | fail)
                refine (check14 F gm w.heap.size ae k2 r (inB az) E' _ HF8.out (fun t w' hw => closure14 az t _ _ _ w' ((hw.cell (p := ⟨w.heap.size, 0, none⟩) (lt_of_cell HC8.out)).trans HC8.out) (HR8.out.later hw) HAL.out (by omega)) HM8.out HE8.out hsn).mono ?_
                rintro e w9 ⟨hans, hB9⟩
                obtain ⟨T, v, rfl⟩ := ans_err hans hall
                have hbox9 := (hB9.cell (p := ⟨w.heap.size, 0, none⟩) (lt_of_cell HC8.out)).trans HC8.out
                have hrow9 := HR8.out.later hB9
                have hm9 := (hB9.cell (p := ⟨gm, 1, none⟩) (lt_of_cell HM8.out)).trans HM8.out
                have hE9 := HE8.out.later hB9
                have HF9 : Hid (F.answers w9.tape) := by
                  have e : w9.tape = w8.tape := hB9.tape
                  show F.answers w9.tape
                  rw [e]; exact HF8.out
                replace hBe := below_then hBe hB9
                have HC9 := hide hbox9
                have HR9 := hide hrow9
                have HM9 := hide hm9
                have HE9 := hide hE9
                clear hB9 hbox9 hrow9 hm9 hE9 HC8 HR8 HM8 HE8 HF8 hans
                go_wp2_with (first | (go_at_call 10; go_in) | fail)
                refine (check15 F gm w.heap.size ae k2 _ (inB az) E' _ HF9.out (fun t w' hw => closure15 az t _ _ _ w' ((hw.cell (p := ⟨w.heap.size, 0, none⟩) (lt_of_cell HC9.out)).trans HC9.out) (HR9.out.later hw) HAL.out (by omega)) HM9.out HE9.out hsn).mono ?_
                rintro e w10 ⟨hans2, hB10⟩
                obtain ⟨T2, v2, rfl⟩ := ans_err hans2 hall
                have hBf := below_then hBe hB10
                clear hans2 HC9 HR9 HM9 HE9 HF9 hBe hB10
                go_wp2
                go_ret
                exact ⟨rfl, hBf⟩

end Go.Proofs.Qxb6605859aFmt
