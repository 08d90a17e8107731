import Derived.Test.Qxb6605700aSum
namespace Go.Proofs.Qxb6605700a
open Go.ChangeShapes Go.WideShapes Go.ChangeAt Go.RowKit
set_option linter.unusedVariables false

theorem Row.setFar {α : Type} {enc : α → Value} {w : World} {ao : Option Addr} {xs : List α} (h : Row enc w ao xs) {g o : Nat} (hne : xs = [] ∨ ∃ b off, ao = some ⟨b, off, none⟩ ∧ b ≠ g) (u : Value) : Row enc (w.setCell ⟨g, o, none⟩ u) ao xs := by
  rcases h with h | ⟨b, off, rfl, hc⟩
  · exact .inl h
  · rcases hne with h | ⟨b', off', e, hne⟩
    · exact .inl h
    · simp at e
      obtain ⟨rfl, rfl⟩ := e
      exact .inr ⟨b, off, rfl, fun i x hi => by rw [set_far (fun e => hne e.symm)]; exact hc i x hi⟩

/-- The row lies in a block from B on (where it holds anything). -/
def SR.From (r : SR) (B : Nat) : Prop := r.ss = [] ∨ ∃ b off, r.a = some ⟨b, off, none⟩ ∧ B ≤ b
theorem SR.From.mono {r : SR} {B B' : Nat} (h : r.From B) (hB : B' ≤ B) : r.From B' := by
  rcases h with h | ⟨b, off, e, hb⟩
  · exact .inl h
  · exact .inr ⟨b, off, e, by omega⟩
theorem SR.Ok.setFar {r : SR} {w : World} (h : r.Ok w) {B g o : Nat} (hf : r.From B) (hg : g < B) (u : Value) : r.Ok (w.setCell ⟨g, o, none⟩ u) := by
  refine ⟨h.len, h.row.setFar ?_ u, h.nil, h.max, h.smax⟩
  rcases hf with hf | ⟨b, off, e, hb⟩
  · exact .inl hf
  · exact .inr ⟨b, off, e, by omega⟩

/-- Behind k rounds of copying the elements 'xs' into block g. -/
structure CLoop {α : Type} (enc : α → Value) (w : World) (t m : Nat) (xs : List α) (k : Nat) (wr : World) : Prop where
  below : Below w.heap.size w wr
  blk : Blk wr w.heap.size t m
  done : ∀ j x, j < k → xs[j]? = some x → wr.cell? ⟨w.heap.size, j, none⟩ = some (enc x)
theorem CLoop.next {α : Type} {enc : α → Value} {w wr : World} {t m k : Nat} {xs : List α} {x : α} (h : CLoop enc w t m xs k wr) (hk : xs[k]? = some x) (hm : k < m) : CLoop enc w t m xs (k + 1) (wr.setCell ⟨w.heap.size, k, none⟩ (enc x)) := by
  refine ⟨h.below.setCell (p := ⟨w.heap.size, k, none⟩) (Nat.le_refl _) _, h.blk.set k _, fun j y hj hy => ?_⟩
  by_cases e : j = k
  · subst e
    rw [hk] at hy
    simp at hy
    subst hy
    obtain ⟨v, hv⟩ := h.blk.cell hm
    exact set_same hv
  · rw [set_other (fun h => e h.symm)]
    exact h.done j y (by omega) hy
theorem CLoop.row {α : Type} {enc : α → Value} {w wr : World} {t m k : Nat} {xs : List α} (h : CLoop enc w t m xs k wr) (hk : xs.length ≤ k) : Row enc wr (some ⟨w.heap.size, 0, none⟩) xs := by
  refine .inr ⟨w.heap.size, 0, rfl, fun i x hi => ?_⟩
  rw [Nat.zero_add]
  exact h.done i x (by have := lt_of_get hi; omega) hi

theorem info9 : (Try.prog.info? 9).map (fun i => (i.zero, i.size, i.bytes)) = some (some (.string ByteArray.empty), 1, 16) := by kernel_rfl
theorem info34 : (Try.prog.info? 34).map (fun i => (i.zero, i.size, i.bytes)) = some (some (.slice none 0 0), 1, 24) := by kernel_rfl

set_option maxRecDepth 100000 in
set_option maxHeartbeats 1000000 in
theorem cloneStrings (r : SR) (w : World) (hr : r.Ok w) (hl : r.l ≤ 1048576) :
    Calls Try.prog 11 #[r.enc] w fun e w' => ∃ r' : SR, e = .returned r'.enc ∧ Below w.heap.size w w' ∧ r'.Ok w' ∧ r'.From w.heap.size ∧ r'.ss = r.ss ∧ r'.l = r.l ∧ r'.c = r.l := by
  have HR := hide hr
  clear hr
  obtain ⟨a, l, c, ss⟩ := r
  unfold SR.enc
  simp only at *
  have heq := fun wx => Lib.run_eql_slice_nil (P := Try.prog) wx 34 9 a l c 0 0 Try.underlying34
  cases a with
  | none =>
    obtain ⟨hl0, hc0⟩ := HR.out.nil rfl
    simp only at hl0 hc0
    subst hl0 hc0
    have hss : ss = [] := List.eq_nil_of_length_eq_zero HR.out.len
    subst hss
    go_enter Try.func11, Try.ntmps11
    go_wp2
    go_ret
    exact ⟨⟨none, 0, 0, []⟩, rfl, Below.refl _ _, HR.out, .inl rfl, rfl, rfl, rfl⟩
  | some x =>
    obtain ⟨i0, hi, hz0, hz1, hz2⟩ := info_parts info9
    go_enter Try.func11, Try.ntmps11
    go_wp2_with (at_make; refine wpList_make_full _ rfl _ _ 34 rfl w.heap.size 9 i0 _ 1 Try.underlying34 hi hz0 hz1 _ _ _ _ l rfl rfl rfl rfl (by rw [hz2]; omega) (by unfold maxLen; omega) (Nat.le_refl _) ?_; intro w1 hown hgrow; have hblk := blk_of_owns hown; clear hown)
    have hC : CLoop Value.string w 9 l ss 0 w1 := ⟨(Below.refl _ _).grown hgrow (Nat.le_refl _) (by intro k hk; cases hk), by rw [Nat.mul_one] at hblk; exact hblk, fun j x hj => by omega⟩
    clear hblk hgrow
    go_loopw [4] (fun i wr => ∃ k : Nat, k ≤ l ∧ i = .int .i64 k ∧ CLoop Value.string w 9 l ss k wr) (fun i _ => l - (intOf i).toNat)
    case atStart => exact ⟨0, Nat.zero_le _, rfl, hC⟩
    case round =>
      obtain ⟨k, hk, rfl, hL⟩ := hrel
      clear hC
      by_cases hlt : k < l
      · obtain ⟨s, hs⟩ := get_of_lt (xs := ss) (j := k) (by have := HR.out.len; simp only at this; omega)
        obtain ⟨b, off, hx, hcell⟩ := HR.out.row.at hs
        simp only [Option.some.injEq] at hx
        subst hx
        have hcw := (hL.below.cell (p := ⟨b, off + k, none⟩) (lt_of_cell hcell)).trans hcell
        have hN := hL.next hs hlt
        obtain ⟨v, hv⟩ := hL.blk.cell hlt
        have hf := hL.blk.free k
        have hlt' : (k : Int) < (l : Int) := by omega
        clear hL hcell hs
        go_wp2
        go_roundw
        case rel => exact ⟨k + 1, by omega, by go_num, hN⟩
        case measure => simp [intOf]; omega
      · have hrow := hL.row (show ss.length ≤ k by have := HR.out.len; simp only at this; omega)
        have hB := hL.below
        clear hL
        go_wp2
        go_ret
        exact ⟨⟨some ⟨w.heap.size, 0, none⟩, l, l, ss⟩, rfl, hB, ⟨HR.out.len, hrow, fun h => (by cases h), HR.out.max, HR.out.smax⟩, .inr ⟨_, _, rfl, Nat.le_refl _⟩, rfl, rfl, rfl⟩

/-- Two lists of rows that hold the same strings. -/
def Alike (rs rs' : List SR) : Prop := rs'.map (·.ss) = rs.map (·.ss)

/-- Behind k rounds of copying a [][]string. -/
structure DLoop (w : World) (n : Nat) (rs : List SR) (k : Nat) (rs' : List SR) (wr : World) : Prop where
  below : Below w.heap.size w wr
  blk : Blk wr w.heap.size 34 n
  len : rs'.length = k
  cells : ∀ j r, rs'[j]? = some r → wr.cell? ⟨w.heap.size, j, none⟩ = some r.enc
  ok : ∀ r ∈ rs', r.Ok wr ∧ r.From (w.heap.size + 1)
  like : rs'.map (·.ss) = (rs.take k).map (·.ss)

theorem DLoop.later {w wr w' : World} {n k : Nat} {rs rs' : List SR} (h : DLoop w n rs k rs' wr) (hb : Below wr.heap.size wr w') : DLoop w n rs k rs' w' :=
  ⟨h.below.trans (hb.mono h.below.size), h.blk.later hb, h.len, fun j r hj => by rw [hb.cell (p := ⟨w.heap.size, j, none⟩) h.blk.lt]; exact h.cells j r hj, fun r hr => ⟨(h.ok r hr).1.later hb, (h.ok r hr).2⟩, h.like⟩
theorem DLoop.next {w wr : World} {n k : Nat} {rs rs' : List SR} {r r' : SR} (h : DLoop w n rs k rs' wr) (hk : rs[k]? = some r) (hn : k < n) (hok : r'.Ok wr) (hfrom : r'.From (w.heap.size + 1)) (hss : r'.ss = r.ss) :
    DLoop w n rs (k + 1) (rs' ++ [r']) (wr.setCell ⟨w.heap.size, k, none⟩ r'.enc) := by
  obtain ⟨v, hv⟩ := h.blk.cell hn
  refine ⟨h.below.setCell (p := ⟨w.heap.size, k, none⟩) (Nat.le_refl _) _, h.blk.set k _, by simp [h.len], fun j x hj => ?_, fun x hx => ?_, ?_⟩
  · by_cases e : j = k
    · subst e
      rw [List.getElem?_append_right (by rw [h.len]; exact Nat.le_refl _), h.len] at hj
      simp at hj
      subst hj
      exact set_same hv
    · rw [set_other (fun h => e h.symm)]
      have hlt := lt_of_get hj
      rw [List.length_append, h.len] at hlt
      simp at hlt
      rw [List.getElem?_append_left (by rw [h.len]; omega)] at hj
      exact h.cells j x hj
  · rw [List.mem_append] at hx
    rcases hx with hx | hx
    · obtain ⟨h1, h2⟩ := h.ok x hx
      exact ⟨h1.setFar h2 (Nat.lt_succ_self _) _, h2⟩
    · simp at hx
      subst hx
      exact ⟨hok.setFar hfrom (Nat.lt_succ_self _) _, hfrom⟩
  · rw [List.map_append, h.like]
    have e : rs.take (k + 1) = rs.take k ++ [r] := by
      rw [List.take_add_one, hk]; rfl
    rw [e, List.map_append]
    simp [hss]

set_option maxRecDepth 100000 in
set_option maxHeartbeats 1000000 in
theorem cloneStringss (ao : Option Addr) (n c : Nat) (rs : List SR) (w : World) (hS : SS w ao n c rs) (hn : n ≤ 1048576) (hl : ∀ r ∈ rs, r.l ≤ 1048576) :
    Calls Try.prog 12 #[.slice ao n c] w fun e w' => ∃ a' rs', e = .returned (.slice a' n n) ∧ Below w.heap.size w w' ∧ SS w' a' n n rs' ∧ Alike rs rs' := by
  have HS := hide hS
  have HL := hide hl
  clear hS hl
  have heq := fun wx => Lib.run_eql_slice_nil (P := Try.prog) wx 35 34 ao n c 0 0 Try.underlying35
  cases ao with
  | none =>
    obtain ⟨rfl, rfl⟩ := HS.out.nil rfl
    go_enter Try.func12, Try.ntmps12
    go_wp2
    go_ret
    exact ⟨none, rs, rfl, Below.refl _ _, HS.out, rfl⟩
  | some x =>
    obtain ⟨i0, hi, hz0, hz1, hz2⟩ := info_parts info34
    go_enter Try.func12, Try.ntmps12
    go_wp2_with (at_make; refine wpList_make_full _ rfl _ _ 35 rfl w.heap.size 34 i0 _ 1 Try.underlying35 hi hz0 hz1 _ _ _ _ n rfl rfl rfl rfl (by rw [hz2]; omega) (by unfold maxLen; omega) (Nat.le_refl _) ?_; intro w1 hown hgrow; have hblk := blk_of_owns hown; clear hown)
    have hC : DLoop w n rs 0 [] w1 := ⟨(Below.refl _ _).grown hgrow (Nat.le_refl _) (by intro k hk; cases hk), by rw [Nat.mul_one] at hblk; exact hblk, rfl, fun j x hj => (by simp at hj), fun r hr => (by cases hr), by simp⟩
    clear hblk hgrow
    go_loopw [4] (fun i wr => ∃ (k : Nat) (rs' : List SR), k ≤ n ∧ i = .int .i64 k ∧ DLoop w n rs k rs' wr) (fun i _ => n - (intOf i).toNat)
    case atStart => exact ⟨0, [], Nat.zero_le _, rfl, hC⟩
    case round =>
      obtain ⟨k, rs', hk, rfl, hL⟩ := hrel
      clear hC
      by_cases hlt : k < n
      · obtain ⟨r, hr⟩ := get_of_lt (xs := rs) (j := k) (by have := HS.out.len; omega)
        obtain ⟨b, off, hx, hcell⟩ := HS.out.row.at hr
        simp only [Option.some.injEq] at hx
        subst hx
        have hcw := (hL.below.cell (p := ⟨b, off + k, none⟩) (lt_of_cell hcell)).trans hcell
        have hok := (HS.out.okAt hr).later hL.below
        have hlr := HL.out r (List.mem_of_getElem? hr)
        have hlt' : (k : Int) < (n : Int) := by omega
        have HRR := hide hr
        clear hcell hr
        unfold SR.enc at hcw
        go_wp2_with fail
        refine (cloneStrings r wr hok hlr).mono ?_
        rintro e w2 ⟨r', rfl, hB2, hok2, hfr, hss, hl1, hl2⟩
        have hL2 := hL.later hB2
        have hN := hL2.next HRR.out hlt hok2 (hfr.mono (by have := hL.blk.lt; omega)) hss
        obtain ⟨v, hv⟩ := hL2.blk.cell hlt
        have hf := hL2.blk.free k
        clear hL hL2 hB2 hok2 hfr hss hl1 hl2 hok hcw
        obtain ⟨ra, rl, rc, rss⟩ := r'
        unfold SR.enc at hN ⊢
        simp only at hN ⊢
        go_wp2
        go_roundw
        case rel => exact ⟨k + 1, _, by omega, by go_num, hN⟩
        case measure => simp [intOf]; omega
      · obtain rfl : k = n := by omega
        have hSS : SS wr (some ⟨w.heap.size, 0, none⟩) k k rs' := ⟨hL.len, .inr ⟨w.heap.size, 0, rfl, fun i x hi => by rw [Nat.zero_add]; exact hL.cells i x hi⟩, fun h => (by cases h), HS.out.max, fun r hr => (hL.ok r hr).1⟩
        have hlike : Alike rs rs' := by
          have := hL.like
          rw [List.take_of_length_le (by have := HS.out.len; omega)] at this
          exact this
        have hB := hL.below
        clear hL
        go_wp2
        go_ret
        exact ⟨_, rs', rfl, hB, hSS, hlike⟩

end Go.Proofs.Qxb6605700a
