import Derived.Test.Qxb6605859aMsgBase
import Derived.Laws.AppendOwnNone
namespace Go.Proofs.Qxb6605859a
open Go.ChangeShapes Go.WideShapes Go.ChangeAt Go.RowKit
set_option linter.unusedVariables false

theorem wpList_append_opt {w : World} {ops : Array Oper} {rest : List Oper} {o : Oper} {a : Act} {Q : Exit → Act → World → Prop} (hgd : o.guard = none) (s x : Operand)
    (ho : o.op = .call { callee := .builtin .append, args := #[s, x], argTypes := #[22, 22] }) (B : Nat) (v : Value) (n : Nat) (ys : List Int) (hs : a.eval s = v) (hown : w.ownsRow B 5 1 v n (ys.map (Value.int .u8)))
    (sp : Option Addr) (m c : Nat) (zs : List Int) (hx : a.eval x = .slice sp m c) (hz : zs.length = m) (hR : Row w sp zs) (hnil : sp = none → m = 0 ∧ c = 0) (hsz : n + m ≤ 1073741824) (hB : B ≤ w.heap.size)
    (h : ∀ v' w', w'.ownsRow B 5 1 v' (n + m) ((ys ++ zs).map (Value.int .u8)) → Below B w w' → wpList Try.prog ops Q rest (a.put o.dst v') w') : wpList Try.prog ops Q (o :: rest) a w := by
  obtain ⟨i0, hi, hz0, hz1, hz2⟩ := info_parts info5
  cases sp with
  | none =>
    obtain ⟨rfl, rfl⟩ := hnil rfl
    obtain rfl : zs = [] := List.eq_nil_of_length_eq_zero hz
    refine wpList_append_own_none hgd s x 22 ho B 5 i0 1 Try.underlying22 hi v n _ hs hown hx ?_
    exact h v w (by simpa using hown) (Below.refl _ _)
  | some ad =>
    refine wpList_append_own _ hgd s x 22 ho B 5 i0 (.int .u8 0) 1 1 Try.underlying22 hi hz0 hz1 hz2 rfl (by decide) v n _ hs hown ad m c (zs.map (Value.int .u8)) hx (by simp [hz]) hR.olds (ones zs) (by unfold maxLen; omega) (by omega) hB ?_
    intro v' w' hown' hg _
    exact h v' w' (by simpa using hown') ((Below.refl B w).grown hg hB (own_block_ge hown))

theorem owns_later {w w' : World} {B n : Nat} {v : Value} {xs : List Value} (h : w.ownsRow B 5 1 v n xs) (hb : Below w.heap.size w w') : w'.ownsRow B 5 1 v n xs := by
  obtain ⟨h1, h⟩ := h
  refine ⟨h1, ?_⟩
  rcases h with h | ⟨g, cap, cur, hv, hg, hh, r⟩
  · exact .inl h
  · exact .inr ⟨g, cap, cur, hv, hg, by rw [hb.block g (lt_of_block hh)]; exact hh, r⟩

theorem below_over {A B C : World} (h : Below A.heap.size A B) (k : Below B.heap.size B C) : Below A.heap.size A C := below_then h k

theorem bytes11_yes (a1 a2 a3 : Option Addr) (l1 c1 l2 c2 l3 c3 : Nat) (t : Int) (w : World) (h : l1 + l2 + l3 ≤ 1048576) :
    Calls Try.prog 11 #[.slice a1 l1 c1, .int .u8 t, .slice a2 l2 c2, .slice a3 l3 c3] w fun e w' => e = .returned (.bool true) ∧ w' = w := by
  go_enter Try.func11, Try.ntmps11
  go_wp2
  go_ret
  exact ⟨rfl, rfl⟩

theorem bytes11_no (a1 a2 a3 : Option Addr) (l1 c1 l2 c2 l3 c3 : Nat) (t : Int) (w : World) (h1 : l1 ≤ 9223372036854775807) (h2 : l2 ≤ 9223372036854775807) (h3 : l3 ≤ 9223372036854775807) (h : ¬ l1 + l2 + l3 ≤ 1048576) :
    Calls Try.prog 11 #[.slice a1 l1 c1, .int .u8 t, .slice a2 l2 c2, .slice a3 l3 c3] w fun e w' => e = .returned (.bool false) ∧ w' = w := by
  go_enter Try.func11, Try.ntmps11
  go_wp2
  all_goals (go_ret; exact ⟨rfl, rfl⟩)

set_option maxRecDepth 100000 in
set_option maxHeartbeats 2000000 in
theorem trip_main (a0 b0 t0 : Option Addr) (l1 c1 l2 c2 l3 c3 : Nat) (zs bs ts : List Int) (typ : Int) (w : World) (hz : zs.length = l1) (hr : Row w a0 zs) (hnil : a0 = none → l1 = 0 ∧ c1 = 0)
    (hbz : bs.length = l2) (hbr : Row w b0 bs) (hbnil : b0 = none → l2 = 0 ∧ c2 = 0) (htz : ts.length = l3) (htr : Row w t0 ts) (htnil : t0 = none → l3 = 0 ∧ c3 = 0) (hle : l1 + l2 + l3 ≤ 1048576) :
    Calls Try.prog 4 #[.slice a0 l1 c1, .int .u8 typ, .slice b0 l2 c2, .slice t0 l3 c3] w fun e w' => e = .returned (.bool true) ∧ Below w.heap.size w w' := by
  have HZ := hide hz
  have HN := hide hnil
  have HBZ := hide hbz
  have HBN := hide hbnil
  have HTZ := hide htz
  have HTN := hide htnil
  clear hz hnil hbz hbnil htz htnil
  go_enter Try.func4, Try.ntmps4
  go_wp2_with (go_at_call 11; refine (bytes11_yes _ _ _ _ _ _ _ _ _ _ _ hle).mono ?_; rintro e w' ⟨rfl, rfl⟩)
  refine (clone_any a0 l1 c1 zs _ HZ.out hr HN.out (by omega)).mono ?_
  rintro e w1 ⟨a1, rfl, hB, hO1⟩
  replace hbr := hbr.later hB
  replace htr := htr.later hB
  clear hr
  go_wp2_with fail
  refine (clone_any b0 l2 c2 bs _ HBZ.out hbr HBN.out (by omega)).mono ?_
  rintro e w2 ⟨b1, rfl, hB2, hO2⟩
  replace hO1 := hO1.later hB2
  replace htr := htr.later hB2
  replace hB := below_then hB hB2
  clear hB2 hbr
  go_wp2_with fail
  refine (clone_any t0 l3 c3 ts _ HTZ.out htr HTN.out (by omega)).mono ?_
  rintro e w3 ⟨t1, rfl, hB3, hO3⟩
  replace hO1 := hO1.later hB3
  replace hO2 := hO2.later hB3
  replace hB := below_then hB hB3
  clear hB3 htr
  go_wp2_with fail
  refine (clone_any a1 l1 l1 zs _ HZ.out hO1.row (by rw [← HZ.out]; exact hO1.nil) (by omega)).mono ?_
  rintro e w4 ⟨a2, rfl, hB4, hO4⟩
  replace hO1 := hO1.later hB4
  replace hO2 := hO2.later hB4
  replace hO3 := hO3.later hB4
  replace hB := below_then hB hB4
  clear hB4
  go_wp2_with fail
  refine (header_any a1 l1 zs typ l2 _ HZ.out hO1.row (by rw [← HZ.out]; exact hO1.nil) (by omega)).mono ?_
  rintro e w5 ⟨v, rfl, hown, hD⟩
  obtain ⟨g, c, rfl, hc1, hc2, hl, hR⟩ := owns_open hown (by omega)
  unfold maxLen at hc2
  clear hl
  go_wp2_with fail
  refine (equal_below _ _ l1 _ _ zs _ HZ.out ((hR.take l1).cast (by rw [← HZ.out]; simp)) (hO4.later hD).row (by omega)).mono ?_
  rintro e w6 ⟨rfl, hB6⟩
  replace hown := owns_later hown hB6
  replace hD := below_then hD hB6
  clear hB6 hR
  go_wp2_with fail
  refine (equal_below _ _ l1 _ _ zs _ HZ.out (hO1.later hD).row (hO4.later hD).row (by omega)).mono ?_
  rintro e w7 ⟨rfl, hB7⟩
  replace hown := owns_later hown hB7
  replace hD := below_then hD hB7
  clear hB7
  go_wp2_with (first
    | (at_builtin; refine wpList_append_opt rfl (.tmp 77) (.tmp 78) rfl w4.heap.size _ (l1 + 4) _ rfl hown _ l2 l2 bs rfl HBZ.out (hO2.later hD).row (by rw [← HBZ.out]; exact hO2.nil) (by omega) hD.size ?_; intro v8 w8 hown8 hB8; obtain ⟨g8, c8, rfl, hc81, hc82, hl8, hR8⟩ := owns_open hown8 (by omega); clear hl8 hR8; have hD8 := hD.trans hB8)
    | (at_builtin; refine wpList_append_opt rfl (.tmp 82) (.tmp 83) rfl w4.heap.size _ (l1 + 4 + l2) _ rfl hown8 _ l3 l3 ts rfl HTZ.out (hO3.later hD8).row (by rw [← HTZ.out]; exact hO3.nil) (by omega) hD8.size ?_; intro v9 w9 hown9 hB9; obtain ⟨g9, c9, rfl, hc91, hc92, hl9, hR9⟩ := owns_open hown9 (by omega); unfold maxLen at hc92; have hD9 := hD8.trans hB9; have hne9 : ¬ c9 = l1 := (by omega)))
  have hRm : Row w9 (some ⟨g9, l1, none⟩) (typ :: (l2 : Int) / 65536 % 256 :: (l2 : Int) / 256 % 256 :: (l2 : Int) % 256 :: (bs ++ ts)) := by
    have := hR9.mid l1
    rw [Nat.zero_add] at this
    refine this.cast ?_
    rw [← HZ.out]
    simp [hdr]
  clear hown hown8 hown9 hD hB8 hD8 hB9 hR9 hl9 hc81 hc82
  refine (parse_any g9 l1 (l1 + 4 + l2 + l3 - l1) (c9 - l1) typ _ _ _ bs ts l2 l3 w9 hRm HBZ.out HTZ.out (by omega) (by omega) (by omega) (by omega) (by omega) (by omega) (by omega)).mono ?_
  rintro e w10 ⟨ab, ar, cr, rfl, hRb, hRt, hB10⟩
  replace hRm := hRm.later hB10
  replace hD9 := below_then hD9 hB10
  clear hB10
  go_wp2_with fail
  refine (equal_two (some ⟨g9, l1, none⟩) (some ⟨g9, l1, none⟩) _ _ _ _ ((typ :: (l2 : Int) / 65536 % 256 :: (l2 : Int) / 256 % 256 :: (l2 : Int) % 256 :: (bs ++ ts)).take (4 + l2)) _ (by simp; rw [HBZ.out, HTZ.out]; omega) (by simp; rw [HBZ.out, HTZ.out]; omega) (hRm.take _) (hRm.take _) (by omega)).mono ?_
  rintro e w11 ⟨rfl, hB11⟩
  replace hRm := hRm.later hB11
  replace hRb := hRb.later hB11
  replace hRt := hRt.later hB11
  replace hD9 := below_then hD9 hB11
  clear hB11
  have ct : w11.cell? ⟨g9, l1, none⟩ = some (.int .u8 typ) := by
    have := hRm.cellAt 0 (by simp)
    simpa using this
  have hpos : (0 : Int) < ((4 + l2 : Nat) : Int) := by omega
  clear hRm
  go_wp2_with fail
  refine (equal_below ab b1 l2 l2 l2 bs _ HBZ.out hRb (hO2.later hD9).row (by omega)).mono ?_
  rintro e w12 ⟨rfl, hB12⟩
  replace hRt := hRt.later hB12
  replace hD9 := below_then hD9 hB12
  clear hB12 hRb ct
  go_wp2_with fail
  refine (equal_below ar t1 l3 cr l3 ts _ HTZ.out hRt (hO3.later hD9).row (by omega)).mono ?_
  rintro e w13 ⟨rfl, hB13⟩
  replace hD9 := below_then hD9 hB13
  replace hB := below_then hB hD9
  go_wp2
  go_ret
  exact ⟨rfl, hB⟩

theorem trip_any (a0 b0 t0 : Option Addr) (l1 c1 l2 c2 l3 c3 : Nat) (zs bs ts : List Int) (typ : Int) (w : World) (hz : zs.length = l1) (hr : Row w a0 zs) (hnil : a0 = none → l1 = 0 ∧ c1 = 0)
    (hbz : bs.length = l2) (hbr : Row w b0 bs) (hbnil : b0 = none → l2 = 0 ∧ c2 = 0) (htz : ts.length = l3) (htr : Row w t0 ts) (htnil : t0 = none → l3 = 0 ∧ c3 = 0) (hm1 : l1 ≤ maxLen) (hm2 : l2 ≤ maxLen) (hm3 : l3 ≤ maxLen) :
    Calls Try.prog 4 #[.slice a0 l1 c1, .int .u8 typ, .slice b0 l2 c2, .slice t0 l3 c3] w fun e w' => e = .returned (.bool true) ∧ Below w.heap.size w w' := by
  unfold maxLen at hm1 hm2 hm3
  by_cases hle : l1 + l2 + l3 ≤ 1048576
  · exact trip_main a0 b0 t0 l1 c1 l2 c2 l3 c3 zs bs ts typ w hz hr hnil hbz hbr hbnil htz htr htnil hle
  · clear hr hnil hbr hbnil htr htnil hz hbz htz
    go_enter Try.func4, Try.ntmps4
    go_wp2_with (go_at_call 11; refine (bytes11_no _ _ _ _ _ _ _ _ _ _ _ (by omega) (by omega) (by omega) hle).mono ?_; rintro e w' ⟨rfl, rfl⟩)
    go_ret
    exact ⟨rfl, Below.refl _ _⟩

/-- What the frame tells of a slice that came in, in this seat's words. -/
theorem in_row {w : World} {a : Option Addr} {len cap : Nat} {zs : List Int}
    (h : (a = none ∧ len = 0 ∧ cap = 0 ∧ zs = []) ∨ ∃ x, a = some x ∧ len ≤ cap ∧ cap ≤ maxLen ∧ zs.length = cap ∧ (∀ i, i < zs.length → w.cell? (x.add i) = some (.int .u8 (zs.getD i 0))) ∧ ∀ n ∈ zs, (Lit.int .u8 n).wf = true) :
    ∃ ys : List Int, ys.length = len ∧ Row w a ys ∧ (a = none → len = 0 ∧ cap = 0) ∧ len ≤ maxLen := by
  rcases h with ⟨rfl, rfl, rfl, rfl⟩ | ⟨x, rfl, hl, hm, hz, hc, hwz⟩
  · exact ⟨[], rfl, .inl rfl, fun _ => ⟨rfl, rfl⟩, by simp [maxLen]⟩
  · exact ⟨zs.take len, by simp; omega, row_of_cells hc len, fun h => (by cases h), by omega⟩

end Go.Proofs.Qxb6605859a
