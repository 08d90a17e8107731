import Derived.Test.Qxb6605859aFmtCheck
namespace Go.Proofs.Qxb6605859aFmt
open Go.ChangeShapes Go.WideShapes Go.ChangeAt Go.RowKit
open Go.Extern.Stop Go.Stop Go.Extern
set_option linter.unusedVariables false

/-! ### the greatest type seen so far -/
def TopL (L : List Int) (sb : Bool) (tp : Int) : Prop := (sb = false ∧ L = []) ∨ (sb = true ∧ tp ∈ L ∧ ∀ t ∈ L, t ≤ tp)
def pre (E : Nat → Ent) (k : Nat) : List Int := (List.range k).flatMap fun i => (E i).ez
theorem pre_succ (E : Nat → Ent) (k : Nat) : pre E (k + 1) = pre E k ++ (E k).ez := by simp [pre, List.range_succ]
theorem mem_pre {E : Nat → Ent} {k : Nat} {t : Int} : t ∈ pre E k ↔ ∃ i, i < k ∧ t ∈ (E i).ez := by simp [pre]

theorem top_new {L : List Int} {sb : Bool} {tp x : Int} (h : TopL L sb tp) (hx : sb = true → tp < x) : TopL (L ++ [x]) true x := by
  rcases h with ⟨rfl, rfl⟩ | ⟨rfl, h1, h2⟩
  · exact .inr ⟨rfl, by simp, by simp⟩
  · refine .inr ⟨rfl, by simp, fun t ht => ?_⟩
    rw [List.mem_append] at ht
    rcases ht with ht | ht
    · have := h2 t ht; have := hx rfl; omega
    · simp at ht; omega
theorem top_old {L : List Int} {tp x : Int} (h : TopL L true tp) (hx : x ≤ tp) : TopL (L ++ [x]) true tp := by
  rcases h with ⟨h, _⟩ | ⟨_, h1, h2⟩
  · cases h
  · refine .inr ⟨rfl, by simp [h1], fun t ht => ?_⟩
    rw [List.mem_append] at ht
    rcases ht with ht | ht
    · exact h2 t ht
    · simp at ht; omega
theorem take_snoc (ez : List Int) (j : Nat) (h : j < ez.length) : ez.take (j + 1) = ez.take j ++ [ez.getD j 0] := by
  rw [List.take_succ_eq_append_getElem h]
  simp [h]

theorem all_below {E : Nat → Ent} {n : Nat} {lim : Int} : AllOk (fun t => decide (t < lim)) E n ↔ ∀ t ∈ pre E n, t < lim := by
  constructor
  · intro h t ht
    obtain ⟨i, hi, hm⟩ := mem_pre.1 ht
    simpa using h i hi t hm
  · intro h i hi t ht
    simpa using h t (mem_pre.2 ⟨i, hi, ht⟩)
theorem all_of_none {E : Nat → Ent} {n : Nat} {lim tp : Int} (h : TopL (pre E n) false tp) : AllOk (fun t => decide (t < lim)) E n := by
  rcases h with ⟨_, h⟩ | ⟨h, _⟩
  · rw [all_below, h]; intro t ht; cases ht
  · cases h
theorem all_of_lt {E : Nat → Ent} {n : Nat} {lim tp : Int} (h : TopL (pre E n) true tp) (hl : tp < lim) : AllOk (fun t => decide (t < lim)) E n := by
  rcases h with ⟨h, _⟩ | ⟨_, h1, h2⟩
  · cases h
  · rw [all_below]; intro t ht; have := h2 t ht; omega
theorem not_of_ge {E : Nat → Ent} {n : Nat} {lim tp : Int} (h : TopL (pre E n) true tp) (hl : lim ≤ tp) : ¬ AllOk (fun t => decide (t < lim)) E n := by
  rcases h with ⟨h, _⟩ | ⟨_, h1, h2⟩
  · cases h
  · rw [all_below]; intro ha; have := ha tp h1; omega
theorem ans_nil {ok : Int → Bool} {E : Nat → Ent} {n : Nat} {e : Ending} (h : Ans ok E n e) (ha : AllOk ok E n) : e = .returned .nilIface := by
  rcases h with ⟨h, _⟩ | ⟨_, h⟩
  · exact h
  · exact absurd ha h
theorem ans_err {ok : Int → Bool} {E : Nat → Ent} {n : Nat} {e : Ending} (h : Ans ok E n e) (ha : ¬ AllOk ok E n) : ∃ T v, e = .returned (.iface T v) := by
  rcases h with ⟨_, h⟩ | ⟨h, _⟩
  · exact absurd h ha
  · exact h

theorem closure11 (lim t : Int) (gc : Nat) (w : World) (hc : w.cell? ⟨gc, 0, none⟩ = some (.int .u16 lim)) :
    Calls Tryf.prog 11 #[.int .u16 t, .pointer (some ⟨gc, 0, none⟩)] w fun e w' => e = .returned (.bool (decide (t < lim))) ∧ w' = w := by
  go_enter Tryf.func11, Tryf.ntmps11
  go_wp2
  go_ret
  exact ⟨rfl, rfl⟩

/-- What is told of a slice that came in. -/
structure In8 (w : World) (a : Option Addr) (l c : Nat) (zs : List Int) : Prop where
  len : zs.length = l
  row : Row .u8 w 0 a zs
  nil : a = none → l = 0 ∧ c = 0
  max : l ≤ 9223372036854775807
theorem In8.later {w w' : World} {a : Option Addr} {l c : Nat} {zs : List Int} (h : In8 w a l c zs) (hb : Below w.heap.size w w') : In8 w' a l c zs := ⟨h.len, h.row.later hb, h.nil, h.max⟩

/-- The outer loop's slots behind k rounds; the inner one's behind j. -/
def OutR (E : Nat → Ent) (n : Nat) (s tv i : Value) : Prop := ∃ (k : Nat) (sb : Bool) (tp : Int), k ≤ n ∧ s = .bool sb ∧ tv = .int .u16 tp ∧ i = .int .i64 k ∧ TopL (pre E k) sb tp
def InR (L ez : List Int) (s tv i : Value) : Prop := ∃ (j : Nat) (sb : Bool) (tp : Int), j ≤ ez.length ∧ s = .bool sb ∧ tv = .int .u16 tp ∧ i = .int .i64 j ∧ TopL (L ++ ez.take j) sb tp

def Small (l0 l3 l4 rs n : Nat) : Prop := l0 ≤ 1048576 ∧ l3 ≤ 1048576 ∧ l4 ≤ 1048576 ∧ rs ≤ 1048576 ∧ n ≤ 32768

set_option maxRecDepth 100000 in
set_option maxHeartbeats 4000000 in
theorem limit_big (F : Interp) (a0 a3 a4 ao : Option Addr) (l0 c0 n cn l3 c3 l4 c4 : Nat) (z0 z3 z4 : List Int) (t lim : Int) (r : ByteArray) (E : Nat → Ent) (w : World) (hF : F.answers w.tape)
    (h0 : In8 w a0 l0 c0 z0) (h3 : In8 w a3 l3 c3 z3) (h4 : In8 w a4 l4 c4 z4) (hE : Ents w ao n E) (hnil : ao = none → n = 0 ∧ cn = 0) (hn : n ≤ 9223372036854775807) (hr : r.size ≤ 9223372036854775807) (hbig : ¬ Small l0 l3 l4 r.size n) :
    Calls Tryf.prog 3 #[.slice a0 l0 c0, .slice ao n cn, .int .u16 t, .slice a3 l3 c3, .slice a4 l4 c4, .int .u16 lim, .string r] w fun e w' => e = .returned (.bool true) ∧ Below w.heap.size w w' := by
  have hm0 := h0.max
  have hm3 := h3.max
  have hm4 := h4.max
  have hbig' : 1048576 < l0 ∨ 1048576 < l3 ∨ 1048576 < l4 ∨ 1048576 < r.size ∨ 32768 < n := by unfold Small at hbig; omega
  clear hF hnil hbig
  have hB0 : Below w.heap.size w (w.alloc (.cells #[.int .u16 lim] 24)) := (Below.refl _ _).alloc (Nat.le_refl _) _
  have hE0 := hE.later hB0
  clear h0 h3 h4 hE
  go_enter Tryf.func3, Tryf.ntmps3
  go_wp2_with fail
  refine (bytes5_any _ _ _ _ _ _ _ _ _ _ _ _ _ _ _ E _ hE0 hn).mono ?_
  rintro e w' ⟨⟨b, rfl⟩, rfl⟩
  cases b with
  | false =>
    go_wp2
    go_ret
    exact ⟨rfl, hB0⟩
  | true =>
    go_wp2_with fail
    all_goals first | (go_ret; exact ⟨rfl, hB0⟩) | (exfalso; omega)

set_option maxRecDepth 100000 in
set_option maxHeartbeats 4000000 in
theorem limit_small (F : Interp) (a0 a3 a4 ao : Option Addr) (l0 c0 n cn l3 c3 l4 c4 : Nat) (z0 z3 z4 : List Int) (t lim : Int) (r : ByteArray) (E : Nat → Ent) (w : World) (hF : F.answers w.tape)
    (h0 : In8 w a0 l0 c0 z0) (h3 : In8 w a3 l3 c3 z3) (h4 : In8 w a4 l4 c4 z4) (hE : Ents w ao n E) (hnil : ao = none → n = 0 ∧ cn = 0) (hn : n ≤ 9223372036854775807) (hr : r.size ≤ 9223372036854775807) (hs : Small l0 l3 l4 r.size n) :
    Calls Tryf.prog 3 #[.slice a0 l0 c0, .slice ao n cn, .int .u16 t, .slice a3 l3 c3, .slice a4 l4 c4, .int .u16 lim, .string r] w fun e w' => e = .returned (.bool true) ∧ Below w.heap.size w w' := by
  obtain ⟨hs0, hs3, hs4, hsr, hsn⟩ := hs
  have hd0 : decide (1048576 < (l0 : Int)) = false := by simp; omega
  have hd3 : decide (1048576 < (l3 : Int)) = false := by simp; omega
  have hd4 : decide (1048576 < (l4 : Int)) = false := by simp; omega
  have hdr : decide (1048576 < (r.size : Int)) = false := by simp; omega
  have hdn : decide (32768 < (n : Int)) = false := by simp; omega
  have HF := hide hF
  have HN := hide hnil
  clear hF hnil
  have hB : Below w.heap.size w (w.alloc (.cells #[.int .u16 lim] 24)) := (Below.refl _ _).alloc (Nat.le_refl _) _
  replace hE := hE.later hB
  replace h0 := h0.later hB
  replace h3 := h3.later hB
  replace h4 := h4.later hB
  have hcl : (w.alloc (.cells #[.int .u16 lim] 24)).cell? ⟨w.heap.size, 0, none⟩ = some (.int .u16 lim) := by simp
  have HC := hide hcl
  clear hcl
  go_enter Tryf.func3, Tryf.ntmps3
  go_wp2_with fail
  refine (bytes5_any _ _ _ _ _ _ _ _ _ _ _ _ _ _ _ E _ hE hn).mono ?_
  rintro e w' ⟨⟨b, rfl⟩, rfl⟩
  cases b with
  | false =>
    go_wp2
    go_ret
    exact ⟨rfl, hB⟩
  | true =>
    go_wp2_with fail
    refine (entriesBytes _ _ _ E _ hE hn).mono ?_
    rintro e w' ⟨⟨z, rfl, hz⟩, rfl⟩
    have HZ := hide hz
    clear hz
    have hzb : 0 ≤ z ∧ z ≤ 2621440 := by
      rcases HZ.out with h | ⟨h1, h2, _⟩ <;> omega
    by_cases hbig : 1048576 < (l0 : Int) + (l3 : Int) + (l4 : Int) + (r.size : Int) + z
    · go_wp2
      go_ret
      exact ⟨rfl, hB⟩
    · have hdz : decide (1048576 < (l0 : Int) + (l3 : Int) + (l4 : Int) + (r.size : Int) + z) = false := by simp; omega
      have hsm : Smalls n E := by
        rcases HZ.out with h | ⟨_, _, _, h⟩
        · omega
        · exact h
      clear HZ hbig
      go_wp2_with fail
      refine (clone8 _ _ _ z0 _ h0.len h0.row h0.nil (by omega)).mono ?_
      rintro e w1 ⟨b0, rfl, hB1, hr0, hn0⟩
      replace hE := hE.later hB1
      replace h3 := h3.later hB1
      replace h4 := h4.later hB1
      have hc1 := (hB1.cell (p := ⟨w.heap.size, 0, none⟩) (lt_of_cell HC.out)).trans HC.out
      replace hB := below_then hB hB1
      clear h0 hr0 hn0 hB1 HC
      have HC := hide hc1
      clear hc1
      go_wp2_with fail
      refine (cloneEnts _ _ _ E _ hE HN.out hsn hsm).mono ?_
      rintro e w2 ⟨b1, E', rfl, hB2, hE', hn1, hez⟩
      replace h3 := h3.later hB2
      replace h4 := h4.later hB2
      have hc1 := (hB2.cell (p := ⟨w.heap.size, 0, none⟩) (lt_of_cell HC.out)).trans HC.out
      replace hB := below_then hB hB2
      clear hE hsm HN hB2 HC hez
      have HC := hide hc1
      clear hc1
      go_wp2_with fail
      refine (clone8 _ _ _ z3 _ h3.len h3.row h3.nil (by omega)).mono ?_
      rintro e w3 ⟨b3, rfl, hB3, hr0, hn0⟩
      replace hE' := hE'.later hB3
      replace h4 := h4.later hB3
      have hc1 := (hB3.cell (p := ⟨w.heap.size, 0, none⟩) (lt_of_cell HC.out)).trans HC.out
      replace hB := below_then hB hB3
      clear h3 hr0 hn0 hB3 HC
      have HC := hide hc1
      clear hc1
      go_wp2_with fail
      refine (clone8 _ _ _ z4 _ h4.len h4.row h4.nil (by omega)).mono ?_
      rintro e w4 ⟨b4, rfl, hB4, hr0, hn0⟩
      replace hE' := hE'.later hB4
      have hc1 := (hB4.cell (p := ⟨w.heap.size, 0, none⟩) (lt_of_cell HC.out)).trans HC.out
      replace hB := below_then hB hB4
      clear h4 hr0 hn0 hB4 HC
      have HE := hide hE'
      have HN1 := hide hn1
      clear hE' hn1
      have HF4 : Hid (F.answers w4.tape) := by
        have e : w4.tape = w.tape := hB.tape
        show F.answers w4.tape
        rw [e]; exact HF.out
      clear HF
      go_wp2_with fail
      go_loop [15, 16, 17] (fun s tv i => OutR E' n s tv i) (fun _ _ i => n - (intOf i).toNat)
      case atStart => exact ⟨0, false, 0, Nat.zero_le _, rfl, rfl, rfl, .inl ⟨rfl, rfl⟩⟩
      case round =>
        obtain ⟨k, sb, tp, hk, rfl, rfl, rfl, hT⟩ := hrel
        by_cases hlt : k < n
        · obtain ⟨eb, eo, rfl, e0, e1, hok⟩ := HE.out.at hlt
          have hlt' : (k : Int) < (n : Int) := by omega
          have hrow := hok.erow
          have hel := hok.elen
          have hem := hok.emax
          obtain ⟨ez, hez⟩ : ∃ ez, ez = (E' k).ez := ⟨_, rfl⟩
          rw [← hez] at hrow hel
          have HEZ := hide hez
          clear hez hok e0
          generalize (E' k).ea = ea at *
          generalize (E' k).el = el at *
          generalize (E' k).ec = ec at *
          have HEL := hide hel
          have HT := hide hT
          have HROW := hide hrow
          clear hel hT hrow
          go_wp2_with fail
          go_loop [15, 16, 19] (fun s tv i => InR (pre E' k) ez s tv i) (fun _ _ i => ez.length - (intOf i).toNat)
          case atStart => exact ⟨0, sb, tp, Nat.zero_le _, rfl, rfl, rfl, by simpa using HT.out⟩
          case round =>
            clear HT
            obtain ⟨j, sb2, tp2, hj, rfl, rfl, rfl, hT2⟩ := hrel
            rw [HEL.out] at hj
            by_cases hjl : j < el
            · obtain ⟨xb, xo, rfl, hcell⟩ := HROW.out.at (j := j) (by rw [HEL.out]; exact hjl)
              have hsn := take_snoc ez j (by rw [HEL.out]; exact hjl)
              obtain ⟨x, hx⟩ : ∃ x, x = ez.getD j 0 := ⟨_, rfl⟩
              rw [← hx] at hcell hsn
              have HS : Hid (pre E' k ++ ez.take (j + 1) = (pre E' k ++ ez.take j) ++ [x]) := by
                show _ = _
                rw [hsn, List.append_assoc]
              clear hx hsn
              have hjl' : (j : Int) < (el : Int) := by omega
              cases sb2 with
              | false =>
                have hnew := top_new (x := x) hT2 (fun h => by cases h)
                rw [← HS.out] at hnew
                clear hT2
                go_wp2
                go_round
                case rel => exact ⟨j + 1, true, x, by rw [HEL.out]; omega, rfl, rfl, by go_num, hnew⟩
                case measure => simp [intOf]; have := HEL.out; omega
              | true =>
                by_cases hgt : tp2 < x
                · have hnew := top_new (x := x) hT2 (fun _ => hgt)
                  rw [← HS.out] at hnew
                  clear hT2
                  go_wp2
                  go_round
                  case rel => exact ⟨j + 1, true, x, by rw [HEL.out]; omega, rfl, rfl, by go_num, hnew⟩
                  case measure => simp [intOf]; have := HEL.out; omega
                · have hnew := top_old (x := x) hT2 (by omega)
                  rw [← HS.out] at hnew
                  clear hT2
                  go_wp2
                  go_round
                  case rel => exact ⟨j + 1, true, tp2, by rw [HEL.out]; omega, rfl, rfl, by go_num, hnew⟩
                  case measure => simp [intOf]; have := HEL.out; omega
            · have hnew : TopL (pre E' (k + 1)) sb2 tp2 := by
                rw [pre_succ, ← HEZ.out]
                rw [List.take_of_length_le (by rw [HEL.out]; omega)] at hT2
                exact hT2
              clear hT2
              go_wp2
              go_round
              case rel => exact ⟨k + 1, sb2, tp2, by omega, rfl, rfl, by go_num, hnew⟩
              case measure => simp [intOf]; omega
        · obtain rfl : k = n := by omega
          cases sb with
          | false =>
            have hall := all_of_none (lim := lim) hT
            clear hT
            go_wp2_with fail
            refine (auth_any _ _ _ _ _ _ _ _ _ _ _ _ E' _ HE.out HN1.out hsn).mono ?_
            rintro e w5 ⟨gm, ae, rfl, hB5, hm5, hE5⟩
            have hc5 := (hB5.cell (p := ⟨w.heap.size, 0, none⟩) (lt_of_cell hc1)).trans hc1
            have HF5 : Hid (F.answers w5.tape) := by
              have e : w5.tape = w4.tape := hB5.tape
              show F.answers w5.tape
              rw [e]; exact HF4.out
            have hBe := below_then hB hB5
            have HC5 := hide hc5
            have HM5 := hide hm5
            have HE5 := hide hE5
            clear hB5 hc5 hm5 hE5 hc1 hB HE HN1
            go_wp2_with (first | (go_at_call 10; go_in) | fail)
            refine (check11 F gm w.heap.size ae k r (fun t => decide (t < lim)) E' _ HF5.out (fun t w' hw => closure11 lim t _ w' ((hw.cell (p := ⟨w.heap.size, 0, none⟩) (lt_of_cell HC5.out)).trans HC5.out)) HM5.out HE5.out hsn).mono ?_
            rintro e w6 ⟨hans, hB6⟩
            obtain rfl := ans_nil hans hall
            have hBf := below_then hBe hB6
            clear hans hall
            go_wp2
            go_ret
            exact ⟨rfl, hBf⟩
          | true =>
            by_cases hge : lim ≤ tp
            · have hall := not_of_ge hT hge
              clear hT
              go_wp2_with fail
              refine (auth_any _ _ _ _ _ _ _ _ _ _ _ _ E' _ HE.out HN1.out hsn).mono ?_
              rintro e w5 ⟨gm, ae, rfl, hB5, hm5, hE5⟩
              have hc5 := (hB5.cell (p := ⟨w.heap.size, 0, none⟩) (lt_of_cell hc1)).trans hc1
              have HF5 : Hid (F.answers w5.tape) := by
                have e : w5.tape = w4.tape := hB5.tape
                show F.answers w5.tape
                rw [e]; exact HF4.out
              have hBe := below_then hB hB5
              have HC5 := hide hc5
              have HM5 := hide hm5
              have HE5 := hide hE5
              clear hB5 hc5 hm5 hE5 hc1 hB HE HN1
              go_wp2_with (first | (go_at_call 10; go_in) | fail)
              refine (check11 F gm w.heap.size ae k r (fun t => decide (t < lim)) E' _ HF5.out (fun t w' hw => closure11 lim t _ w' ((hw.cell (p := ⟨w.heap.size, 0, none⟩) (lt_of_cell HC5.out)).trans HC5.out)) HM5.out HE5.out hsn).mono ?_
              rintro e w6 ⟨hans, hB6⟩
              obtain ⟨T, v, rfl⟩ := ans_err hans hall
              have hBf := below_then hBe hB6
              clear hans hall
              go_wp2
              go_ret
              exact ⟨rfl, hBf⟩
            · have hall := all_of_lt hT (show tp < lim by omega)
              clear hT
              go_wp2_with fail
              refine (auth_any _ _ _ _ _ _ _ _ _ _ _ _ E' _ HE.out HN1.out hsn).mono ?_
              rintro e w5 ⟨gm, ae, rfl, hB5, hm5, hE5⟩
              have hc5 := (hB5.cell (p := ⟨w.heap.size, 0, none⟩) (lt_of_cell hc1)).trans hc1
              have HF5 : Hid (F.answers w5.tape) := by
                have e : w5.tape = w4.tape := hB5.tape
                show F.answers w5.tape
                rw [e]; exact HF4.out
              have hBe := below_then hB hB5
              have HC5 := hide hc5
              have HM5 := hide hm5
              have HE5 := hide hE5
              clear hB5 hc5 hm5 hE5 hc1 hB HE HN1
              go_wp2_with (first | (go_at_call 10; go_in) | fail)
              refine (check11 F gm w.heap.size ae k r (fun t => decide (t < lim)) E' _ HF5.out (fun t w' hw => closure11 lim t _ w' ((hw.cell (p := ⟨w.heap.size, 0, none⟩) (lt_of_cell HC5.out)).trans HC5.out)) HM5.out HE5.out hsn).mono ?_
              rintro e w6 ⟨hans, hB6⟩
              obtain rfl := ans_nil hans hall
              have hBf := below_then hBe hB6
              clear hans hall
              go_wp2
              go_ret
              exact ⟨rfl, hBf⟩

theorem limit_any (F : Interp) (a0 a3 a4 ao : Option Addr) (l0 c0 n cn l3 c3 l4 c4 : Nat) (z0 z3 z4 : List Int) (t lim : Int) (r : ByteArray) (E : Nat → Ent) (w : World) (hF : F.answers w.tape)
    (h0 : In8 w a0 l0 c0 z0) (h3 : In8 w a3 l3 c3 z3) (h4 : In8 w a4 l4 c4 z4) (hE : Ents w ao n E) (hnil : ao = none → n = 0 ∧ cn = 0) (hn : n ≤ 9223372036854775807) (hr : r.size ≤ 9223372036854775807) :
    Calls Tryf.prog 3 #[.slice a0 l0 c0, .slice ao n cn, .int .u16 t, .slice a3 l3 c3, .slice a4 l4 c4, .int .u16 lim, .string r] w fun e w' => e = .returned (.bool true) ∧ Below w.heap.size w w' := by
  by_cases hs : Small l0 l3 l4 r.size n
  · exact limit_small F a0 a3 a4 ao l0 c0 n cn l3 c3 l4 c4 z0 z3 z4 t lim r E w hF h0 h3 h4 hE hnil hn hr hs
  · exact limit_big F a0 a3 a4 ao l0 c0 n cn l3 c3 l4 c4 z0 z3 z4 t lim r E w hF h0 h3 h4 hE hnil hn hr hs

end Go.Proofs.Qxb6605859aFmt
