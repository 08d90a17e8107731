import Derived.Test.Qxb6605700aRows
import Derived.WalkKit
import Derived.ProofKit
import Derived.OpenShut
import Derived.Below
import Derived.WalkSpells
import Derived.WalkLawsBesides
import Derived.BigQuiet
import Derived.OneCell
import Derived.Laws.Rows
namespace Go.Proofs.Qxb6605700a
open Go.ChangeShapes Go.WideShapes Go.ChangeAt Go.RowKit
set_option linter.unusedVariables false

theorem hide {p : Prop} (h : p) : Hid p := h
theorem below_drewN {B : Nat} {a w : World} (h : Below B a w) (n : Nat) : Below B a (w.drewN n) := ⟨h.os, h.tape, h.output, h.size, h.block⟩
theorem below_then {A B C : World} (h : Below A.heap.size A B) (k : Below B.heap.size B C) : Below A.heap.size A C := h.trans (k.mono h.size)
theorem lt_of_cell {w : World} {a : Addr} {v : Value} (h : w.cell? a = some v) : a.block < w.heap.size := by
  by_cases hb : a.block < w.heap.size
  · exact hb
  · have : w.heap[a.block]? = none := Array.getElem?_eq_none (by omega)
    simp [World.cell?, this] at h

/-- The slice at 'ao' holds the elements 'xs' (one cell each, by 'enc'). -/
def Row {α : Type} (enc : α → Value) (w : World) (ao : Option Addr) (xs : List α) : Prop :=
  xs = [] ∨ ∃ b off, ao = some ⟨b, off, none⟩ ∧ ∀ i x, xs[i]? = some x → w.cell? ⟨b, off + i, none⟩ = some (enc x)

theorem Row.later {α : Type} {enc : α → Value} {w w' : World} {ao : Option Addr} {xs : List α} (h : Row enc w ao xs) (hb : Below w.heap.size w w') : Row enc w' ao xs := by
  rcases h with h | ⟨b, off, rfl, hc⟩
  · exact .inl h
  · refine .inr ⟨b, off, rfl, fun i x hi => ?_⟩
    have h1 := hc i x hi
    rw [hb.cell (p := ⟨b, off + i, none⟩) (lt_of_cell h1)]
    exact h1

theorem Row.at {α : Type} {enc : α → Value} {w : World} {ao : Option Addr} {xs : List α} (h : Row enc w ao xs) {j : Nat} {x : α} (hj : xs[j]? = some x) :
    ∃ b off, ao = some ⟨b, off, none⟩ ∧ w.cell? ⟨b, off + j, none⟩ = some (enc x) := by
  rcases h with rfl | ⟨b, off, rfl, hc⟩
  · simp at hj
  · exact ⟨b, off, rfl, hc j x hj⟩

theorem get_of_lt {α : Type} {xs : List α} {j : Nat} (h : j < xs.length) : ∃ x, xs[j]? = some x := ⟨xs[j], List.getElem?_eq_getElem h⟩
theorem lt_of_get {α : Type} {xs : List α} {j : Nat} {x : α} (h : xs[j]? = some x) : j < xs.length := (List.getElem?_eq_some_iff.1 h).1

/-! ### blocks -/
def Blk (w : World) (g t m : Nat) : Prop := ∃ cs, w.heap[g]? = some (.cells cs t (0, 0)) ∧ cs.size = m
theorem Blk.cell {w : World} {g t m o : Nat} (h : Blk w g t m) (ho : o < m) : ∃ v, w.cell? ⟨g, o, none⟩ = some v := by
  obtain ⟨cs, hg, rfl⟩ := h
  exact ⟨cs[o], by simp [World.cell?, hg, ho]⟩
theorem Blk.free {w : World} {g t m : Nat} (h : Blk w g t m) (o : Nat) : w.frozen? ⟨g, o, none⟩ = false := by
  obtain ⟨cs, hg, rfl⟩ := h
  simp [World.frozen?, hg]
theorem Blk.lt {w : World} {g t m : Nat} (h : Blk w g t m) : g < w.heap.size := by
  obtain ⟨cs, hg, _⟩ := h
  exact lt_of_block hg
theorem Blk.keep {w w' : World} {g t m : Nat} (h : Blk w g t m) (e : w'.heap[g]? = w.heap[g]?) : Blk w' g t m := by
  obtain ⟨cs, hg, hs⟩ := h
  exact ⟨cs, e.trans hg, hs⟩
theorem Blk.later {w w' : World} {g t m : Nat} (h : Blk w g t m) (hb : Below w.heap.size w w') : Blk w' g t m := h.keep (hb.block g h.lt)
theorem Blk.set {w : World} {g t m : Nat} (h : Blk w g t m) (o : Nat) (u : Value) : Blk (w.setCell ⟨g, o, none⟩ u) g t m := by
  obtain ⟨cs, hg, hs⟩ := h
  exact ⟨cs.setIfInBounds o u, heap_setCell_same w g o cs t u hg, by simpa using hs⟩
theorem Blk.setOther {w : World} {g t m : Nat} (h : Blk w g t m) {g' : Nat} (hne : g ≠ g') (o : Nat) (u : Value) : Blk (w.setCell ⟨g', o, none⟩ u) g t m := h.keep (Below.heap_setCell w ⟨g', o, none⟩ u g hne)

theorem set_other {w : World} {g o o' : Nat} {u : Value} (h : o ≠ o') : (w.setCell ⟨g, o, none⟩ u).cell? ⟨g, o', none⟩ = w.cell? ⟨g, o', none⟩ :=
  World.cell?_setCell_other w ⟨g, o, none⟩ ⟨g, o', none⟩ u (fun e => h (congrArg Addr.off e))
theorem set_far {w : World} {g g' o o' : Nat} {u : Value} (h : g ≠ g') : (w.setCell ⟨g, o, none⟩ u).cell? ⟨g', o', none⟩ = w.cell? ⟨g', o', none⟩ :=
  World.cell?_setCell_other w ⟨g, o, none⟩ ⟨g', o', none⟩ u (fun e => h (congrArg Addr.block e))
theorem set_same {w : World} {g o : Nat} {u v : Value} (h : w.cell? ⟨g, o, none⟩ = some v) : (w.setCell ⟨g, o, none⟩ u).cell? ⟨g, o, none⟩ = some u :=
  World.cell?_setCell_same w ⟨g, o, none⟩ u h

theorem block_of_owns {w : World} {B e size : Nat} {g n : Nat} {xs : List Value} (h : w.ownsRow B e size (.slice (some ⟨g, 0, none⟩) n n) n xs) : w.heap[g]? = some (.cells xs.toArray e (0, 0)) ∧ xs.length = n * size := by
  obtain ⟨h1, h2⟩ := h
  rcases h2 with ⟨h2, _⟩ | ⟨g', cap, cur, hv, hB, hg, _, _, hs, ht⟩
  · simp at h2
  · simp at hv
    obtain ⟨rfl, rfl⟩ := hv
    refine ⟨?_, h1⟩
    have e : cur.toList.take (n * size) = cur.toList := List.take_of_length_le (by simp [hs])
    rw [hg, ← ht, e]
theorem blk_of_owns {w : World} {B e size : Nat} {g n : Nat} {xs : List Value} (h : w.ownsRow B e size (.slice (some ⟨g, 0, none⟩) n n) n xs) : Blk w g e (n * size) := by
  obtain ⟨h1, h2⟩ := block_of_owns h
  exact ⟨_, h1, by simpa using h2⟩

/-! ### what is told of the slices of strings -/
/-- One []string. -/
structure SR where
  a : Option Addr
  l : Nat
  c : Nat
  ss : List ByteArray
def SR.enc (r : SR) : Value := .slice r.a r.l r.c
structure SR.Ok (r : SR) (w : World) : Prop where
  len : r.ss.length = r.l
  row : Row Value.string w r.a r.ss
  nil : r.a = none → r.l = 0 ∧ r.c = 0
  max : r.l ≤ 9223372036854775807
  smax : ∀ s ∈ r.ss, s.size ≤ 9223372036854775807
theorem SR.Ok.later {r : SR} {w w' : World} (h : r.Ok w) (hb : Below w.heap.size w w') : r.Ok w' := ⟨h.len, h.row.later hb, h.nil, h.max, h.smax⟩
/-- A [][]string at 'ao', its rows 'rs'. -/
structure SS (w : World) (ao : Option Addr) (n c : Nat) (rs : List SR) : Prop where
  len : rs.length = n
  row : Row SR.enc w ao rs
  nil : ao = none → n = 0 ∧ c = 0
  max : n ≤ 9223372036854775807
  each : ∀ r ∈ rs, r.Ok w
theorem SS.later {w w' : World} {ao : Option Addr} {n c : Nat} {rs : List SR} (h : SS w ao n c rs) (hb : Below w.heap.size w w') : SS w' ao n c rs :=
  ⟨h.len, h.row.later hb, h.nil, h.max, fun r hr => (h.each r hr).later hb⟩
theorem SS.okAt {w : World} {ao : Option Addr} {n c : Nat} {rs : List SR} (h : SS w ao n c rs) {j : Nat} {r : SR} (hj : rs[j]? = some r) : r.Ok w := h.each r (List.mem_of_getElem? hj)

/-! ### zzAddStrings, zzAddStringss, zzToolBytes -/
/-- What the adding answers: over the cap, or at least what is told. -/
def AddP (t m z : Int) : Prop := 1048576 < z ∧ z ≤ 67108864 ∨ (t + m ≤ z ∧ z ≤ 67108864)

set_option maxRecDepth 100000 in
set_option maxHeartbeats 2000000 in
theorem addStrings (t : Int) (r : SR) (w : World) (hr : r.Ok w) (h0 : 0 ≤ t) (h1 : t ≤ 67108864) :
    Calls Try.prog 19 #[.int .i64 t, r.enc] w fun e w' => (∃ z : Int, e = .returned (.int .i64 z) ∧ 0 ≤ z ∧ AddP t (16 * r.l) z) ∧ w' = w := by
  have HR := hide hr
  have hmax := hr.max
  have hsm := hr.smax
  have hlen := hr.len
  have HS := hide hsm
  have HL := hide hlen
  clear hr hsm hlen
  unfold SR.enc
  obtain ⟨a, l, c, ss⟩ := r
  simp only at *
  by_cases hb : 1048576 < t ∨ 1048576 < (l : Int)
  · go_enter Try.func19, Try.ntmps19
    go_wp2
    all_goals (go_ret; exact ⟨⟨_, rfl, by omega, .inl ⟨by omega, by omega⟩⟩, rfl⟩)
  · have hb1 : t ≤ 1048576 := by omega
    have hb2 : (l : Int) ≤ 1048576 := by omega
    clear hb
    have hd1 : decide (1048576 < t) = false := by simp; omega
    have hd2 : decide (1048576 < (l : Int)) = false := by simp; omega
    go_enter Try.func19, Try.ntmps19
    go_wp2
    go_loop [0, 5] (fun s i => ∃ (q : Int) (k : Nat), k ≤ l ∧ s = .int .i64 q ∧ t + 16 * (l : Int) ≤ q ∧ q ≤ 33554432 ∧ i = .int .i64 k) (fun _ i => l - (intOf i).toNat)
    case atStart => exact ⟨_, 0, Nat.zero_le _, rfl, by omega, by omega, rfl⟩
    case round =>
      obtain ⟨q, k, hk, rfl, hq0, hq1, rfl⟩ := hrel
      by_cases hlt : k < l
      · obtain ⟨s, hs⟩ := get_of_lt (xs := ss) (j := k) (by have := HL.out; omega)
        obtain ⟨b, off, hx, hcell⟩ := HR.out.row.at hs
        simp only at hx
        subst hx
        have hsz := HS.out s (List.mem_of_getElem? hs)
        have hlt' : (k : Int) < (l : Int) := by omega
        clear hs
        by_cases hov : 1048576 < q
        · go_wp2
          all_goals (go_ret; exact ⟨⟨_, rfl, by omega, .inl ⟨by omega, by omega⟩⟩, rfl⟩)
        · by_cases hso : 1048576 < (s.size : Int)
          · go_wp2
            all_goals (go_ret; exact ⟨⟨_, rfl, by omega, .inl ⟨by omega, by omega⟩⟩, rfl⟩)
          · go_wp2
            go_round
            case rel => exact ⟨_, k + 1, by omega, rfl, by omega, by omega, by go_num⟩
            case measure => simp [intOf]; omega
      · go_wp2
        go_ret
        exact ⟨⟨q, rfl, by omega, .inr ⟨by omega, by omega⟩⟩, rfl⟩

end Go.Proofs.Qxb6605700a
