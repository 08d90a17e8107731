import Derived.Test.Qxb6605859aRows
import Derived.WalkKit
import Derived.ProofKit
import Derived.OpenShut
import Derived.Below
import Derived.WalkSpells
import Derived.WalkLawsBesides
import Derived.BigQuiet
import Derived.Laws.CopyOwn
namespace Go.Proofs.Qxb6605859a
open Go.ChangeShapes Go.WideShapes Go.ChangeAt Go.RowKit
set_option linter.unusedVariables false

theorem hide {p : Prop} (h : p) : Hid p := h
theorem unhide {p : Prop} (h : Hid p) : p := h

/-- The slice whose address is 'ao' holds the bytes 'zs' in the world 'w'. -/
def Row (w : World) (ao : Option Addr) (zs : List Int) : Prop :=
  zs = [] ∨ ∃ b off, ao = some ⟨b, off, none⟩ ∧ ∀ i, i < zs.length → w.cell? ⟨b, off + i, none⟩ = some (.int .u8 (zs.getD i 0))

theorem lt_of_cell {w : World} {a : Addr} {v : Value} (h : w.cell? a = some v) : a.block < w.heap.size := by
  by_cases hb : a.block < w.heap.size
  · exact hb
  · have : w.heap[a.block]? = none := Array.getElem?_eq_none (by omega)
    simp [World.cell?, this] at h

theorem Row.later {w w' : World} {ao : Option Addr} {zs : List Int} (h : Row w ao zs) (hb : Below w.heap.size w w') : Row w' ao zs := by
  rcases h with h | ⟨b, off, rfl, hc⟩
  · exact .inl h
  · refine .inr ⟨b, off, rfl, fun i hi => ?_⟩
    have h1 := hc i hi
    rw [hb.cell (p := ⟨b, off + i, none⟩) (lt_of_cell h1)]
    exact h1

set_option maxHeartbeats 400000 in
theorem equal_same (a b : Option Addr) (n c1 c2 : Nat) (zs : List Int) (w : World) (hn : zs.length = n) (h1 : Row w a zs) (h2 : Row w b zs) (hm : n ≤ 140737488355328) :
    Calls Try.prog 10 #[.slice a n c1, .slice b n c2] w fun e w' => e = .returned (.bool true) ∧ ∃ k, w' = w.drewN k := by
  by_cases h0 : n = 0
  · subst h0
    go_enter Try.func10, Try.ntmps10
    go_wp2
    refine wp_loop_rounds 1 ?_; rw [rounds_succ]
    go_wp2
    go_ret
    exact ⟨rfl, 0, rfl⟩
  · rcases h1 with h1 | ⟨b1, o1, rfl, hc1⟩
    · subst h1; simp at hn; omega
    rcases h2 with h2 | ⟨b2, o2, rfl, hc2⟩
    · subst h2; simp at hn; omega
    rw [hn] at hc1 hc2
    clear hn
    go_enter Try.func10, Try.ntmps10
    go_wp2
    go_loopw [5] (fun i wr => ∃ k q : Nat, k ≤ n ∧ i = .int .i64 k ∧ wr = w.drewN q) (fun i _ => n - (intOf i).toNat)
    case atStart => exact ⟨0, 0, Nat.zero_le _, rfl, rfl⟩
    case round =>
      obtain ⟨k, q, hk, rfl, rfl⟩ := hrel
      by_cases hlt : k < n
      · have g1 := hc1 k hlt
        have g2 := hc2 k hlt
        have hlt' : (k : Int) < (n : Int) := by omega
        clear hc1 hc2
        go_wp2
        go_quiet (fail)
        go_wp2
        go_roundw
        case rel => exact ⟨k + 1, _, by omega, by go_num, rfl⟩
        case measure => simp [intOf]; omega
      · go_wp2
        go_ret
        exact ⟨rfl, q, rfl⟩


/-! ### ZZparserBytes (with (*parser).bytes walked in its place) -/
/-- Where the rest of a slice begins behind 'l' elements. -/
def cutAt (ao : Option Addr) (l cap : Nat) : Option Addr := if cap = l then ao else ao.map (·.add l)

theorem Row.cut {w : World} {ao : Option Addr} {zs : List Int} (h : Row w ao zs) (l cap : Nat) (hc : zs.length ≤ cap) : Row w (cutAt ao l cap) (zs.drop l) := by
  unfold cutAt
  by_cases hl : zs.length ≤ l
  · exact .inl (List.drop_eq_nil_of_le hl)
  · rw [if_neg (by omega)]
    rcases h with rfl | ⟨b, off, rfl, hc⟩
    · simp at hl
    · refine .inr ⟨b, off + l, by simp [Addr.add], fun i hi => ?_⟩
      rw [List.length_drop] at hi
      have := hc (l + i) (by omega)
      rw [show off + l + i = off + (l + i) from by omega, this]
      simp

theorem Row.take {w : World} {ao : Option Addr} {zs : List Int} (h : Row w ao zs) (l : Nat) : Row w ao (zs.take l) := by
  rcases h with rfl | ⟨b, off, rfl, hc⟩
  · exact .inl (by simp)
  · refine .inr ⟨b, off, rfl, fun i hi => ?_⟩
    rw [List.length_take] at hi
    rw [hc i (by omega)]
    simp [show i < l from by omega]

theorem below_drewN {B : Nat} {a w : World} (h : Below B a w) (n : Nat) : Below B a (w.drewN n) := ⟨h.os, h.tape, h.output, h.size, h.block⟩

set_option maxHeartbeats 400000 in
theorem parserBytes_no (ao : Option Addr) (len cap : Nat) (n : Int) (w : World) (hlt : (len : Int) < n) :
    Calls Try.prog 14 #[.slice ao len cap, .int .i64 n] w fun e w' => e = .returned (.tuple #[.slice none 0 0, .slice ao len cap, .bool false]) ∧ Below w.heap.size w w' := by
  go_enter Try.func14, Try.ntmps14
  go_wp2
  go_quiet (fail)
  go_wp2
  go_ret3
  exact ⟨rfl, below_drewN ((Below.refl _ _).alloc (Nat.le_refl _) _) _⟩

set_option maxHeartbeats 400000 in
theorem parserBytes_yes (ao : Option Addr) (len cap : Nat) (n : Nat) (w : World) (hle : n ≤ len) (hlc : len ≤ cap) (hm : cap ≤ 140737488355328) :
    Calls Try.prog 14 #[.slice ao len cap, .int .i64 n] w fun e w' => e = .returned (.tuple #[.slice ao n n, .slice (cutAt ao n cap) (len - n) (cap - n), .bool true]) ∧ Below w.heap.size w w' := by
  unfold cutAt
  by_cases hcn : cap = n
  · obtain rfl : len = n := by omega
    subst hcn
    rw [if_pos rfl]
    go_enter Try.func14, Try.ntmps14
    go_wp2
    go_quiet (fail)
    go_wp2
    go_ret3
    exact ⟨by simp, below_drewN ((Below.refl _ _).alloc (Nat.le_refl _) _) _⟩
  · rw [if_neg hcn]
    go_enter Try.func14, Try.ntmps14
    go_wp2
    go_quiet (fail)
    go_wp2
    go_ret3
    exact ⟨rfl, below_drewN ((Below.refl _ _).alloc (Nat.le_refl _) _) _⟩

theorem row_of_cells {w : World} {x : Addr} {zs : List Int} (hc : ∀ i, i < zs.length → w.cell? (x.add i) = some (.int .u8 (zs.getD i 0))) (len : Nat) : Row w (some x) (zs.take len) := by
  by_cases hp : 0 < zs.length
  · obtain ⟨b, off, rfl, h⟩ := ints_at hc hp
    exact Row.take (.inr ⟨b, off, rfl, h⟩) len
  · obtain rfl : zs = [] := List.eq_nil_of_length_eq_zero (by omega)
    exact .inl (by simp)

/-! ### the bound on lengths -/
theorem bytes13_any (ao : Option Addr) (len cap : Nat) (n : Int) (w : World) (hm : len ≤ 9223372036854775807) :
    Calls Try.prog 13 #[.slice ao len cap, .int .i64 n] w fun e w' => e = .returned (.bool (decide (len ≤ 1048576))) ∧ w' = w := by
  by_cases h : len ≤ 1048576
  · rw [decide_eq_true h]
    go_enter Try.func13, Try.ntmps13
    go_wp2
    go_ret
    exact ⟨rfl, rfl⟩
  · rw [decide_eq_false h]
    go_enter Try.func13, Try.ntmps13
    go_wp2
    go_ret
    exact ⟨rfl, rfl⟩
theorem bytes15_any (ao : Option Addr) (len cap : Nat) (n m : Int) (w : World) (hm : len ≤ 9223372036854775807) :
    Calls Try.prog 15 #[.slice ao len cap, .int .i64 n, .int .i64 m] w fun e w' => e = .returned (.bool (decide (len ≤ 1048576))) ∧ w' = w := by
  by_cases h : len ≤ 1048576
  · rw [decide_eq_true h]
    go_enter Try.func15, Try.ntmps15
    go_wp2
    go_ret
    exact ⟨rfl, rfl⟩
  · rw [decide_eq_false h]
    go_enter Try.func15, Try.ntmps15
    go_wp2
    go_ret
    exact ⟨rfl, rfl⟩

/-! ### zzClone -/
theorem info5 : (Try.prog.info? 5).map (fun i => (i.zero, i.size, i.bytes)) = some (some (.int .u8 0), 1, 1) := by kernel_rfl

/-- The slice at 'ao' is nil and empty, or it owns a whole row of the call's own (from block B on), which holds just 'zs'. -/
def Own (w : World) (B : Nat) (ao : Option Addr) (zs : List Int) : Prop :=
  (ao = none ∧ zs = []) ∨ ∃ g, ao = some ⟨g, 0, none⟩ ∧ B ≤ g ∧ w.heap[g]? = some (.cells (zs.map (Value.int .u8)).toArray 5 (0, 0))

theorem Own.row {w : World} {B : Nat} {ao : Option Addr} {zs : List Int} (h : Own w B ao zs) : Row w ao zs := by
  rcases h with ⟨_, h⟩ | ⟨g, rfl, _, hg⟩
  · exact .inl h
  · refine .inr ⟨g, 0, rfl, fun i hi => ?_⟩
    simp [World.cell?, hg, hi]

theorem Own.later {w w' : World} {B : Nat} {ao : Option Addr} {zs : List Int} (h : Own w B ao zs) (hb : Below w.heap.size w w') : Own w' B ao zs := by
  rcases h with h | ⟨g, rfl, hB, hg⟩
  · exact .inl h
  · refine .inr ⟨g, rfl, hB, ?_⟩
    have hlt : g < w.heap.size := by
      by_cases h : g < w.heap.size
      · exact h
      · rw [Array.getElem?_eq_none (by omega)] at hg; simp at hg
    rw [hb.block g hlt]; exact hg

theorem Own.nil {w : World} {B : Nat} {ao : Option Addr} {zs : List Int} (h : Own w B ao zs) : ao = none → zs.length = 0 ∧ zs.length = 0 := by
  rcases h with ⟨_, rfl⟩ | ⟨g, rfl, _⟩ <;> simp

theorem map_get (zs : List Int) (j : Nat) (v : Value) (h : (zs.map (Value.int .u8))[j]? = some v) : j < zs.length ∧ v = .int .u8 (zs.getD j 0) := by
  rw [List.getElem?_map] at h
  by_cases hj : j < zs.length
  · rw [List.getElem?_eq_getElem hj] at h
    simp at h
    exact ⟨hj, by simp [hj, ← h]⟩
  · rw [List.getElem?_eq_none (by omega)] at h; simp at h

theorem splice_whole {α : Type} (L cs : List α) (h : L.length = cs.length) : splice L 0 cs = cs := by
  simp [splice, ← h]

theorem block_of_owns {w : World} {B : Nat} {g n : Nat} {xs : List Value} (h : w.ownsRow B 5 1 (.slice (some ⟨g, 0, none⟩) n n) n xs) : w.heap[g]? = some (.cells xs.toArray 5 (0, 0)) ∧ xs.length = n := by
  obtain ⟨h1, h2⟩ := h
  rcases h2 with ⟨h2, _⟩ | ⟨g', cap, cur, hv, hB, hg, _, _, hs, ht⟩
  · simp at h2
  · simp at hv
    obtain ⟨rfl, rfl⟩ := hv
    simp at h1 hs ht
    refine ⟨?_, h1⟩
    have e : cur.toList.take n = cur.toList := List.take_of_length_le (by simp [hs])
    rw [hg, ← ht, e]

theorem copy_src {w w1 : World} {x : Addr} {zs : List Int} (hr : Row w (some x) zs) (hg : w.grownBy w1 none) (g : Addr) :
    0 < (zs.map (Value.int .u8)).length → (some g : Option Addr) = some g ∧ ∃ ad, some x = some ad ∧ ∀ j v, (zs.map (Value.int .u8))[j]? = some v → w1.cell? (ad.add j) = some v := by
  intro hp
  refine ⟨rfl, x, rfl, fun j v hj => ?_⟩
  obtain ⟨hjl, rfl⟩ := map_get zs j v hj
  rcases hr with h | ⟨b, off, hx, hc⟩
  · rw [h] at hjl; simp at hjl
  · obtain rfl : x = ⟨b, off, none⟩ := by simpa using hx
    rw [Go.WideShapes.add_plain]
    exact hg.cell (hc j hjl) (by simp)
theorem ones (zs : List Int) : ∀ v ∈ zs.map (Value.int .u8), v.oneCell' = true := by
  intro v hv
  simp at hv
  obtain ⟨z, _, rfl⟩ := hv
  rfl

set_option maxHeartbeats 400000 in
theorem clone_any (ao : Option Addr) (len cap : Nat) (zs : List Int) (w : World) (hz : zs.length = len) (hr : Row w ao zs) (hnil : ao = none → len = 0 ∧ cap = 0) (hm : len ≤ 140737488355328) :
    Calls Try.prog 8 #[.slice ao len cap] w fun e w' => ∃ a', e = .returned (.slice a' len len) ∧ Below w.heap.size w w' ∧ Own w' w.heap.size a' zs := by
  have heq := fun wx => Lib.run_eql_slice_nil (P := Try.prog) wx 22 5 ao len cap 0 0 Try.underlying22
  cases ao with
  | none =>
    obtain ⟨rfl, rfl⟩ := hnil rfl
    obtain rfl : zs = [] := List.eq_nil_of_length_eq_zero hz
    clear hnil hr
    go_enter Try.func8, Try.ntmps8
    go_wp2
    go_ret
    exact ⟨none, rfl, Below.refl _ _, .inl ⟨rfl, rfl⟩⟩
  | some x =>
    obtain ⟨i0, hi, hz0, hz1, hz2⟩ := info_parts info5
    clear hnil
    obtain ⟨cs, hcs⟩ : ∃ cs, cs = zs.map (Value.int .u8) := ⟨_, rfl⟩
    have hcl : cs.length = len := by rw [hcs]; simp [hz]
    have HR : Hid (Row w (some x) zs) := hr
    have HC : Hid (cs = zs.map (Value.int .u8)) := hcs
    have HZ : Hid (zs.length = len) := hz
    clear hr hcs hz
    go_enter Try.func8, Try.ntmps8
    go_wp2_with (first
      | (at_make; refine wpList_make_full _ rfl _ _ 22 rfl w.heap.size 5 i0 (.int .u8 0) 1 Try.underlying22 hi hz0 hz1 _ _ _ _ len rfl rfl rfl rfl (by rw [hz2]; omega) (by unfold maxLen; omega) (Nat.le_refl _) ?_; intro w1 hown hgrow; obtain ⟨hblk, hln⟩ := block_of_owns hown; clear hown)
      | (refine wpList_copy_splice rfl (.tmp 9) (.tmp 10) 22 22 rfl 5 Try.underlying22 (by kernel_rfl) _ _ _ _ _ _ rfl rfl w.heap.size 0 _ 5 hblk cs (by rw [hcl]; simp) (by rw [HC.out]; exact copy_src HR.out hgrow _) (by rw [hln, hcl]; omega) (by rw [HC.out]; exact ones zs) w.heap.size w ((Below.refl _ _).grown hgrow (Nat.le_refl _) (by intro k hk; cases hk)) (Nat.le_refl _) ?_; intro w2 HG hB2))
    go_ret
    refine ⟨_, rfl, hB2, .inr ⟨_, rfl, Nat.le_refl _, ?_⟩⟩
    rw [HG.out, splice_whole _ _ (by rw [hln, hcl]), HC.out]

end Go.Proofs.Qxb6605859a
