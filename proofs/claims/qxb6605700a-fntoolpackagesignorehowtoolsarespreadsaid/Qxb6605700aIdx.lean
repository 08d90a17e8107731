import Derived.Test.Qxb6605700aPMap
import Derived.Maps.AppendAt
import Derived.Laws.AppendOwnNone
import Derived.Deep.QuietTactic
namespace Go.Proofs.Qxb6605700a
open Go.ChangeShapes Go.WideShapes Go.ChangeAt Go.RowKit
set_option linter.unusedVariables false

/-- The slice v is the call's own row (blocks from B on) of the elements xs, one cell each. -/
def Own {α : Type} (enc : α → Value) (w : World) (B e : Nat) (v : Value) (xs : List α) : Prop := w.ownsRow B e 1 v xs.length (xs.map enc)
theorem Own.nil {α : Type} (enc : α → Value) (w : World) (B e : Nat) : Own enc w B e (.slice none 0 0) [] := World.ownsRow_nil w B e 1
theorem Own.slice {α : Type} {enc : α → Value} {w : World} {B e : Nat} {v : Value} {xs : List α} (h : Own enc w B e v xs) :
    ∃ ao c, v = .slice ao xs.length c ∧ Row enc w ao xs ∧ (ao = none → xs.length = 0 ∧ c = 0) ∧ xs.length ≤ maxLen := by
  obtain ⟨h1, h2⟩ := h
  rcases h2 with ⟨rfl, hn⟩ | ⟨g, cap, cur, rfl, hB, hg, hnc, hcm, hs, ht⟩
  · rw [hn]
    exact ⟨none, 0, rfl, .inl (List.eq_nil_of_length_eq_zero hn), fun _ => ⟨rfl, rfl⟩, Nat.zero_le _⟩
  · refine ⟨_, cap, rfl, .inr ⟨g, 0, rfl, fun i x hi => ?_⟩, fun h => (by cases h), by omega⟩
    have e1 : (xs.map enc)[i]? = some (enc x) := by simp [hi]
    rw [← ht] at e1
    have hlt := lt_of_get hi
    rw [List.getElem?_take_of_lt (by omega)] at e1
    rw [Nat.zero_add]
    simpa [World.cell?, hg] using e1
theorem Own.kept {α : Type} {enc : α → Value} {w w' : World} {B e : Nat} {v : Value} {xs : List α} (h : Own enc w B e v xs) {row : Option Nat} (hg : w.grownBy w' row) (hne : v.ownBlock = none ∨ v.ownBlock ≠ row) : Own enc w' B e v xs := World.ownsRow.kept h hg hne
theorem below_grown {w w' : World} (h : Below w.heap.size w w') : w.grownBy w' none := ⟨h.os, h.tape, h.output, h.size, fun k hk _ => h.block k hk⟩
theorem Own.later {α : Type} {enc : α → Value} {w w' : World} {B e : Nat} {v : Value} {xs : List α} (h : Own enc w B e v xs) (hb : Below w.heap.size w w') : Own enc w' B e v xs :=
  h.kept (below_grown hb) (by cases v.ownBlock <;> simp)

theorem info28 : (Try.prog.info? 28).map (fun i => (i.zero, i.size, i.bytes)) = some (some (.pointer none), 1, 8) := by kernel_rfl
theorem info3 : (Try.prog.info? 3).map (fun i => (i.zero, i.size, i.bytes)) = some (some (.int .i64 0), 1, 8) := by kernel_rfl

theorem below_alloc (w : World) (o : Obj) : Below w.heap.size w (w.alloc o) := (Below.refl _ _).alloc (Nat.le_refl _) o
theorem cell_new (w : World) (x : Value) (t : TypeId) : (w.alloc (.cells #[x] t)).cell? ⟨w.heap.size, 0, none⟩ = some x := by simp
theorem Own.from {α : Type} {enc : α → Value} {w : World} {B e : Nat} {v : Value} {xs : List α} (h : Own enc w B e v xs) : ∀ k, v.ownBlock = some k → B ≤ k := fun k hk => (World.ownsRow.lt h k hk).1

/-- append of one element, to a row of the call's own. -/
theorem wpList_append_Own {α : Type} (enc : α → Value) {w : World} {ops : Array Oper} {rest : List Oper} {o : Oper} {a : Act} {Q : Exit → Act → World → Prop} (hgd : o.guard = none) (s x : Operand) (t : TypeId)
    (ho : o.op = .call { callee := .builtin .append, args := #[s, x], argTypes := #[t, t] })
    (B e : Nat) (i : TypeInfo) (z : Value) (bytes : Nat) (ht : Try.prog.underlying t = some (.slice e)) (hi : Try.prog.info? e = some i) (hz : i.zero = some z) (hsize : i.size = 1) (hby : i.bytes = bytes) (hzs : z.cells.size = 1) (hb : bytes ≤ 100)
    (v : Value) (xs : List α) (hs : a.eval s = v) (hown : Own enc w B e v xs) (y : α) (hy : (enc y).oneCell' = true) (ad : Addr) (hx : a.eval x = .slice (some ad) 1 1) (hcell : w.cell? ad = some (enc y))
    (hlen : xs.length ≤ 10000000) (hbase : B ≤ w.heap.size)
    (h : ∀ v' w', Own enc w' B e v' (xs ++ [y]) → w.grownBy w' v.ownBlock → (v'.ownBlock = v.ownBlock ∨ v'.ownBlock = some w.heap.size) → wpList Try.prog ops Q rest (a.put o.dst v') w') :
    wpList Try.prog ops Q (o :: rest) a w := by
  refine wpList_append_own_at w hgd s x t ho B e i z 1 bytes ht hi hz hsize hby hzs (by decide) v xs.length (xs.map enc) hs hown ad 1 1 [enc y] hx rfl ?_ (by simp [hy]) (by unfold maxLen; omega) ?_ hbase ?_
  · intro j u hj
    match j, hj with
    | 0, hj =>
      simp at hj
      subst hj
      simpa [Addr.add] using hcell
  · have : (xs.length + 1) * bytes ≤ 10000001 * 100 := Nat.mul_le_mul (by omega) hb
    omega
  · intro v' w' h1 h2 _ h4
    refine h v' w' ?_ h2 h4
    unfold Own
    simpa using h1

/-! ### zzCountTrue -/
set_option maxRecDepth 100000 in
set_option maxHeartbeats 1000000 in
theorem countTrue (oa : Option Addr) (n c : Nat) (bs : List Bool) (w : World) (hlen : bs.length = n) (hrow : Row Value.bool w oa bs) (hn : n ≤ 1048576) :
    Calls Try.prog 16 #[.slice oa n c] w fun e w' => e = .returned (.int .i64 (bs.countP id : Nat)) ∧ w' = w := by
  have HR := hide hrow
  have HL := hide hlen
  clear hrow hlen
  go_enter Try.func16, Try.ntmps16
  go_wp2
  go_loop [3, 4] (fun s i => ∃ k : Nat, k ≤ n ∧ s = .int .i64 ((bs.take k).countP id : Nat) ∧ i = .int .i64 k) (fun _ i => n - (intOf i).toNat)
  case atStart => exact ⟨0, Nat.zero_le _, by simp, rfl⟩
  case round =>
    obtain ⟨k, hk, rfl, rfl⟩ := hrel
    have hcl : (bs.take k).countP id ≤ k := Nat.le_trans List.countP_le_length (by simp; omega)
    by_cases hlt : k < n
    · obtain ⟨s, hs⟩ := get_of_lt (xs := bs) (j := k) (by have := HL.out; omega)
      obtain ⟨b, off, rfl, hcell⟩ := HR.out.at hs
      have hlt' : (k : Int) < (n : Int) := by omega
      have hN : (bs.take (k + 1)).countP id = (bs.take k).countP id + (if s then 1 else 0) := by
        rw [List.take_add_one, hs, List.countP_append]
        cases s <;> simp
      have HN := hide hN
      clear hs hN
      generalize hq : (bs.take k).countP id = q at *
      cases s with
      | true =>
        go_wp2
        go_round
        case rel => exact ⟨k + 1, by omega, by rw [HN.out]; go_num, by go_num⟩
        case measure => simp [intOf]; omega
      | false =>
        go_wp2
        go_round
        case rel => exact ⟨k + 1, by omega, by rw [HN.out]; rfl, by go_num⟩
        case measure => simp [intOf]; omega
    · obtain rfl : k = n := by omega
      have e : bs.take k = bs := List.take_of_length_le (by have := HL.out; omega)
      rw [e]
      go_wp2
      go_ret
      exact ⟨rfl, rfl⟩

/-! ### zzRecordIndices -/
/-- The pointer to package i of the row at block g. -/
def PP (g i : Nat) : Value := .pointer (some ⟨g, i * 7, none⟩)
theorem neq_PP (w : World) (g a b : Nat) : (binOp .neq 28 (.pointer (some ⟨g, a * 7, none⟩)) (.pointer (some ⟨g, b * 7, none⟩))).run Try.prog w = .ok (.bool (!decide (a = b))) w := by
  have h := equal_K w g (some a) (some b)
  simp only [K, Option.some.injEq] at h
  simp only [binOp]
  simp [h, Result.andThen]

/-- Where the search for element k begins. -/
def posOf (is : List Nat) : Nat → Nat
  | 0 => 0
  | k + 1 => match is[k]? with | some i => i + 1 | none => 0
theorem posOf_le {is : List Nat} (hs : is.Pairwise (· < ·)) {k x : Nat} (hx : is[k]? = some x) : posOf is k ≤ x := by
  cases k with
  | zero => exact Nat.zero_le _
  | succ k =>
    have h1 := lt_of_get hx
    obtain ⟨y, hy⟩ := get_of_lt (xs := is) (j := k) (by omega)
    have h2 := (List.pairwise_iff_getElem.1 hs) k (k + 1) (by omega) h1 (by omega)
    have e1 : is[k] = y := by rw [List.getElem?_eq_getElem (by omega)] at hy; simpa using hy
    have e2 : is[k + 1] = x := by rw [List.getElem?_eq_getElem (by omega)] at hx; simpa using hx
    simp only [posOf, hy]
    omega
theorem posOf_succ {is : List Nat} {k x : Nat} (hx : is[k]? = some x) : posOf is (k + 1) = x + 1 := by simp [posOf, hx]

set_option maxRecDepth 100000 in
set_option maxHeartbeats 4000000 in
theorem recordIndices (g n : Nat) (ra pa : Option Addr) (m rc pc : Nat) (is : List Nat) (w : World) (hm : is.length = m) (hsort : is.Pairwise (· < ·)) (hlt : ∀ i ∈ is, i < n) (hr : Row (PP g) w ra is) (hp : Row (PP g) w pa (List.range n)) (hn : n ≤ 1048576) (hm' : m ≤ 1048576) :
    Calls Try.prog 14 #[.slice ra m rc, .slice pa n pc] w fun e w' => ∃ v, e = .returned (.tuple #[v, .bool true]) ∧ Below w.heap.size w w' ∧ Own (fun i : Nat => Value.int .i64 i) w' w.heap.size 3 v is := by
  have HR := hide hr
  have HP := hide hp
  have HM := hide hm
  have HL := hide hlt
  have HS := hide hsort
  clear hr hp hm hlt hsort
  obtain ⟨i0, hi, hz0, hz1, hz2⟩ := info_parts info3
  go_enter Try.func14, Try.ntmps14
  go_wp2
  go_loopw [6, 7, 8] (fun v p i wr => ∃ k : Nat, k ≤ m ∧ p = .int .i64 (posOf is k : Nat) ∧ i = .int .i64 k ∧ Below w.heap.size w wr ∧ Own (fun i : Nat => Value.int .i64 i) wr w.heap.size 3 v (is.take k)) (fun _ _ i _ => m - (intOf i).toNat)
  case atStart => exact ⟨0, Nat.zero_le _, rfl, rfl, Below.refl _ _, Own.nil _ _ _ _⟩
  case round =>
    obtain ⟨k, hk, rfl, rfl, hB, hown⟩ := hrel
    by_cases hkm : k < m
    · obtain ⟨x, hx⟩ := get_of_lt (xs := is) (j := k) (by have := HM.out; omega)
      obtain ⟨b, off, rfl, hcell⟩ := HR.out.at hx
      have hxn := HL.out x (List.mem_of_getElem? hx)
      have hpos := posOf_le HS.out hx
      have HPS := hide (posOf_succ hx)
      have HX := hide hx
      have HOWN := hide hown
      generalize posOf is k = p0 at *
      have hcw := (hB.cell (p := ⟨b, off + k, none⟩) (lt_of_cell hcell)).trans hcell
      unfold PP at hcw
      have hkm' : (k : Int) < (m : Int) := by omega
      have HB := hide hB
      clear hcell hx hown hB
      go_wp2
      go_loopw [7] (fun p wx => ∃ q dn : Nat, q ≤ x ∧ p = .int .i64 q ∧ wx = wr.drewN dn) (fun p _ => x - (intOf p).toNat)
      case atStart => exact ⟨p0, 0, hpos, rfl, rfl⟩
      case round =>
        obtain ⟨q, dn, hq, rfl, rfl⟩ := hrel
        obtain ⟨b2, off2, rfl, hcell2⟩ := HP.out.at (j := q) (x := q) (by rw [List.getElem?_range (by omega)])
        have hcw2 := (HB.out.cell (p := ⟨b2, off2 + q, none⟩) (lt_of_cell hcell2)).trans hcell2
        unfold PP at hcw2
        have hqn' : (q : Int) < (n : Int) := by omega
        have hneq := fun wx => neq_PP wx g q x
        clear hcell2
        by_cases hqx : q = x
        · subst hqx
          simp only [decide_true, Bool.not_true] at hneq
          have hne : decide ((q : Int) = (n : Int)) = false := by simp; omega
          have hne2 : ((q : Int) == (n : Int)) = false := by simp; omega
          go_wp2
          go_quiet (fail)
          have hlk : (is.take k).length = k := by rw [List.length_take]; have := HM.out; omega
          have hD : Below wr.heap.size wr (wr.drewN (dn + nq)) := below_drewN (Below.refl _ _) _
          go_wp2_with (at_builtin; refine wpList_append_Own (fun i : Nat => Value.int .i64 i) rfl _ _ 45 rfl w.heap.size 3 i0 (.int .i64 0) 8 Try.underlying45 hi hz0 hz1 hz2 rfl (by omega) _ _ rfl (Own.later HOWN.out (hD.trans ((below_alloc _ _).mono hD.size))) q rfl _ rfl (cell_new _ _ _) (by omega) (Nat.le_trans HB.out.size (by simp)) ?_; intro v' w1 hown1 hgrow hat)
          go_roundw
          case rel =>
            refine ⟨k + 1, by omega, by rw [HPS.out]; go_num, by go_num, ?_, ?_⟩
            · exact ((below_drewN HB.out _).alloc HB.out.size _).grown hgrow (Nat.le_trans HB.out.size (by simp)) (Own.from HOWN.out)
            · have e : is.take (k + 1) = is.take k ++ [q] := by rw [List.take_add_one, HX.out]; rfl
              rw [e]; exact hown1
          case measure => simp [intOf]; omega
        · have hqd : decide (q = x) = false := by simp [hqx]
          simp only [hqd, Bool.not_false] at hneq
          go_wp2
          go_quiet (fail)
          go_wp2
          go_roundw
          case rel => exact ⟨q + 1, _, by omega, by go_num, rfl⟩
          case measure => simp [intOf]; omega
    · obtain rfl : k = m := by omega
      have e : is.take k = is := List.take_of_length_le (by have := HM.out; omega)
      rw [e] at hown
      go_wp2
      go_ret2
      exact ⟨_, rfl, hB, hown⟩

/-! ### (*Graph).inRecordOrder, ZZnewGraph -/
set_option maxRecDepth 100000 in
set_option maxHeartbeats 4000000 in
theorem inRecordOrder (gG g m n pc : Nat) (pa : Option Addr) (S : Option Nat → Prop) (f : Nat → Bool) (w : World) (hf : ∀ i, f i = true ↔ S (some i)) (hG : w.cell? ⟨gG, 3, none⟩ = some (.slice pa n pc)) (hp : Row (PP g) w pa (List.range n)) (hM : PMap w g m S) (hn : n ≤ 1048576) :
    Calls Try.prog 23 #[.pointer (some ⟨gG, 0, none⟩), .map (some m)] w fun e w' => ∃ v, e = .returned v ∧ Below w.heap.size w w' ∧ Own (PP g) w' w.heap.size 28 v ((List.range n).filter f) := by
  have HP := hide hp
  have HM := hide hM
  have HF := hide hf
  clear hp hM hf
  obtain ⟨i0, hi, hz0, hz1, hz2⟩ := info_parts info28
  go_enter Try.func23, Try.ntmps23
  go_wp2
  go_loopw [5, 13] (fun v i wr => ∃ k : Nat, k ≤ n ∧ i = .int .i64 k ∧ Below w.heap.size w wr ∧ Own (PP g) wr w.heap.size 28 v ((List.range k).filter f)) (fun _ i _ => n - (intOf i).toNat)
  case atStart => exact ⟨0, Nat.zero_le _, rfl, Below.refl _ _, Own.nil _ _ _ _⟩
  case round =>
    obtain ⟨k, hk, rfl, hB, hown⟩ := hrel
    by_cases hkn : k < n
    · obtain ⟨b, off, rfl, hcell⟩ := HP.out.at (j := k) (x := k) (by rw [List.getElem?_range (by omega)])
      have hcw := (hB.cell (p := ⟨b, off + k, none⟩) (lt_of_cell hcell)).trans hcell
      unfold PP at hcw
      have hkn' : (k : Int) < (n : Int) := by omega
      obtain ⟨bb, hrun, hbb⟩ := (HM.out.later hB).lookup (some k)
      rw [← HF.out k] at hbb
      simp only [K] at hrun
      have HBB := hide hbb
      have HB := hide hB
      have HOWN := hide hown
      clear hcell hbb hB hown
      have hstep : (List.range (k + 1)).filter f = (List.range k).filter f ++ (if f k then [k] else []) := by
        rw [List.range_succ, List.filter_append]
        cases h : f k <;> simp [h]
      have HST := hide hstep
      have hlk : ((List.range k).filter f).length ≤ k := Nat.le_trans (List.length_filter_le _ _) (by simp)
      clear hstep
      cases bb with
      | true =>
        have hD : Below wr.heap.size wr wr := Below.refl _ _
        go_wp2_with (at_builtin; refine wpList_append_Own (PP g) rfl _ _ 41 rfl w.heap.size 28 i0 (.pointer none) 8 Try.underlying41 hi hz0 hz1 hz2 rfl (by omega) _ _ rfl (Own.later HOWN.out (below_alloc _ _)) k rfl _ rfl (cell_new _ _ _) (by omega) (Nat.le_trans HB.out.size (by simp)) ?_; intro v' w1 hown1 hgrow hat)
        go_roundw
        case rel =>
          refine ⟨k + 1, by omega, by go_num, (HB.out.alloc HB.out.size _).grown hgrow (Nat.le_trans HB.out.size (by simp)) (Own.from HOWN.out), ?_⟩
          rw [HST.out, HBB.out.1 rfl]
          exact hown1
        case measure => simp [intOf]; omega
      | false =>
        go_wp2
        go_roundw
        case rel =>
          refine ⟨k + 1, by omega, by go_num, HB.out, ?_⟩
          have hfk : f k = false := by
            cases h : f k with
            | false => rfl
            | true => exact absurd (HBB.out.2 h) (by simp)
          rw [HST.out, hfk]
          simpa using HOWN.out
        case measure => simp [intOf]; omega
    · obtain rfl : k = n := by omega
      go_wp2
      go_ret
      exact ⟨_, rfl, hB, hown⟩

set_option maxRecDepth 100000 in
set_option maxHeartbeats 1000000 in
theorem newGraph (fa pa : Option Addr) (nf cf n pc : Nat) (w : World) :
    Calls Try.prog 21 #[.slice fa nf cf, .slice pa n pc] w fun e w' => ∃ gG, e = .returned (.pointer (some ⟨gG, 0, none⟩)) ∧ Below w.heap.size w w' ∧ w'.cell? ⟨gG, 1, none⟩ = some (.slice fa nf cf) ∧ w'.cell? ⟨gG, 3, none⟩ = some (.slice pa n pc) := by
  go_enter Try.func21, Try.ntmps21
  go_wp2
  go_ret
  exact ⟨_, rfl, below_alloc _ _, by simp, by simp⟩

end Go.Proofs.Qxb6605700a
