import Derived.Test.Qxb6605859aFmtClone
namespace Go.Proofs.Qxb6605859aFmt
open Go.ChangeShapes Go.WideShapes Go.ChangeAt Go.RowKit
set_option linter.unusedVariables false

theorem info42 : (Tryf.prog.info? 42).map (fun i => (i.zero, i.size, i.bytes)) = some (some (.agg #[.slice none 0 0, .slice none 0 0]), 2, 48) := by kernel_rfl

/-- Behind k rounds of the loop that lays the library's entries. -/
structure ALoop (w : World) (n k : Nat) (E : Nat → Ent) (wr : World) : Prop where
  below : Below w.heap.size w wr
  blk : Blk wr w.heap.size 42 (n * 2)
  done : ∀ j, j < k → wr.cell? ⟨w.heap.size, j * 2, none⟩ = some (.slice (E j).ca (E j).cl (E j).cc) ∧ wr.cell? ⟨w.heap.size, j * 2 + 1, none⟩ = some (.slice (E j).ea (E j).el (E j).ec)

theorem ALoop.next {w wr : World} {n k : Nat} {E : Nat → Ent} (h : ALoop w n k E wr) (hk : k < n) :
    ALoop w n (k + 1) E ((wr.setCell ⟨w.heap.size, k * 2, none⟩ (.slice (E k).ca (E k).cl (E k).cc)).setCell ⟨w.heap.size, k * 2 + 1, none⟩ (.slice (E k).ea (E k).el (E k).ec)).drew := by
  refine ⟨((h.below.setCell (p := ⟨w.heap.size, k * 2, none⟩) (Nat.le_refl _) _).setCell (p := ⟨w.heap.size, k * 2 + 1, none⟩) (Nat.le_refl _) _).drew, (h.blk.set (k * 2) _).set (k * 2 + 1) _, fun j hj => ?_⟩
  show ((wr.setCell ⟨w.heap.size, k * 2, none⟩ (.slice (E k).ca (E k).cl (E k).cc)).setCell ⟨w.heap.size, k * 2 + 1, none⟩ (.slice (E k).ea (E k).el (E k).ec)).cell? ⟨w.heap.size, j * 2, none⟩ = _ ∧ ((wr.setCell ⟨w.heap.size, k * 2, none⟩ (.slice (E k).ca (E k).cl (E k).cc)).setCell ⟨w.heap.size, k * 2 + 1, none⟩ (.slice (E k).ea (E k).el (E k).ec)).cell? ⟨w.heap.size, j * 2 + 1, none⟩ = _
  by_cases e : j = k
  · subst e
    obtain ⟨v0, hv0⟩ := h.blk.cell (o := j * 2) (by omega)
    obtain ⟨v1, hv1⟩ := (h.blk.set (j * 2) (.slice (E j).ca (E j).cl (E j).cc)).cell (o := j * 2 + 1) (by omega)
    refine ⟨?_, set_same hv1⟩
    rw [set_other (by omega)]
    exact set_same hv0
  · obtain ⟨h0, h1⟩ := h.done j (by omega)
    refine ⟨?_, ?_⟩
    · rw [set_other (by omega), set_other (by omega)]; exact h0
    · rw [set_other (by omega), set_other (by omega)]; exact h1

theorem ALoop.ents {w wr : World} {n : Nat} {E : Nat → Ent} {ao : Option Addr} (h : ALoop w n n E wr) (hE : Ents w ao n E) : Ents wr (some ⟨w.heap.size, 0, none⟩) n E := by
  refine .inr ⟨w.heap.size, 0, rfl, fun i hi => ?_⟩
  obtain ⟨_, _, _, _, _, hok⟩ := hE.at hi
  obtain ⟨h0, h1⟩ := h.done i hi
  rw [Nat.zero_add]
  exact ⟨h0, h1, hok.later h.below⟩

set_option maxRecDepth 100000 in
set_option maxHeartbeats 1000000 in
theorem auth_some (a0 a3 a4 : Option Addr) (x : Addr) (l0 c0 n l3 c3 l4 c4 : Nat) (t : Int) (E : Nat → Ent) (w : World) (hE : Ents w (some x) n E) (hn : n ≤ 32768) :
    Calls Tryf.prog 9 #[.slice a0 l0 c0, .slice (some x) n n, .int .u16 t, .slice a3 l3 c3, .slice a4 l4 c4] w fun e w' => ∃ gm ae, e = .returned (.pointer (some ⟨gm, 0, none⟩)) ∧ Below w.heap.size w w' ∧ w'.cell? ⟨gm, 1, none⟩ = some (.slice ae n n) ∧ Ents w' ae n E := by
  have heq := fun wx => run_neq_slice_nil_any (P := Tryf.prog) wx 23 31 (some x) n n 0 0 Tryf.underlying23
  obtain ⟨i0, hi, hz0, hz1, hz2⟩ := info_parts info42
  have HE := hide hE
  clear hE
  go_enter Tryf.func9, Tryf.ntmps9
  go_wp2_with (at_make; refine wpList_make_full _ rfl _ _ 41 rfl w.heap.size 42 i0 _ 2 Tryf.underlying41 hi hz0 hz1 _ _ _ _ n rfl rfl rfl rfl (by rw [hz2]; omega) (by unfold maxLen; omega) (Nat.le_refl _) ?_; intro w1 hown hgrow; have hblk := block_of_owns hown; clear hown)
  have hC : ALoop w n 0 E w1 := ⟨(Below.refl _ _).grown hgrow (Nat.le_refl _) (by intro k hk; cases hk), ⟨_, hblk.1, by simpa using hblk.2⟩, fun j hj => by omega⟩
  clear hblk hgrow
  go_loopw [12] (fun i wr => ∃ k : Nat, k ≤ n ∧ i = .int .i64 k ∧ ALoop w n k E wr) (fun i _ => n - (intOf i).toNat)
  case atStart => exact ⟨0, Nat.zero_le _, rfl, hC⟩
  case round =>
    obtain ⟨k, hk, rfl, hL⟩ := hrel
    clear hC
    by_cases hlt : k < n
    · obtain ⟨b, off, hx, h0, h1, hok⟩ := HE.out.at hlt
      obtain rfl : x = ⟨b, off, none⟩ := by simpa using hx
      clear hx
      have hlt' : (k : Int) < (n : Int) := by omega
      have hbl : b < w.heap.size := lt_of_cell h0
      have h0r := (hL.below.cell (p := ⟨b, off + k * 2, none⟩) hbl).trans h0
      have h1r := (hL.below.cell (p := ⟨b, off + k * 2 + 1, none⟩) hbl).trans h1
      obtain ⟨v0, hv0⟩ := hL.blk.cell (o := k * 2) (by omega)
      obtain ⟨v1, hv1⟩ := hL.blk.cell (o := k * 2 + 1) (by omega)
      have hf0 := hL.blk.free (k * 2)
      have hf1 := hL.blk.free (k * 2 + 1)
      clear h0 h1
      go_wp2
      go_region
      all_goals go_wp2
      go_roundw
      case rel => exact ⟨k + 1, by omega, by go_num, hL.next hlt⟩
      case measure => simp [intOf]; omega
    · obtain rfl : k = n := by omega
      have hEn := hL.ents HE.out
      have hB := hL.below
      clear hL
      go_wp2
      go_ret
      refine ⟨wr.heap.size, _, rfl, hB.alloc hB.size _, ?_, hEn.later ((Below.refl _ _).alloc (Nat.le_refl _) _)⟩
      simp

set_option maxRecDepth 100000 in
set_option maxHeartbeats 1000000 in
theorem auth_none (a0 a3 a4 : Option Addr) (l0 c0 l3 c3 l4 c4 : Nat) (t : Int) (E : Nat → Ent) (w : World) :
    Calls Tryf.prog 9 #[.slice a0 l0 c0, .slice none 0 0, .int .u16 t, .slice a3 l3 c3, .slice a4 l4 c4] w fun e w' => ∃ gm ae, e = .returned (.pointer (some ⟨gm, 0, none⟩)) ∧ Below w.heap.size w w' ∧ w'.cell? ⟨gm, 1, none⟩ = some (.slice ae 0 0) ∧ Ents w' ae 0 E := by
  have heq := fun wx => run_neq_slice_nil_any (P := Tryf.prog) wx 23 31 none 0 0 0 0 Tryf.underlying23
  go_enter Tryf.func9, Tryf.ntmps9
  go_wp2
  refine wp_loop_rounds 1 ?_; rw [rounds_succ]
  go_wp2
  go_ret
  refine ⟨w.heap.size, none, rfl, (Below.refl _ _).alloc (Nat.le_refl _) _, ?_, .inl rfl⟩
  simp

theorem auth_any (a0 a3 a4 ao : Option Addr) (l0 c0 n l3 c3 l4 c4 : Nat) (t : Int) (E : Nat → Ent) (w : World) (hE : Ents w ao n E) (hnil : ao = none → n = 0 ∧ n = 0) (hn : n ≤ 32768) :
    Calls Tryf.prog 9 #[.slice a0 l0 c0, .slice ao n n, .int .u16 t, .slice a3 l3 c3, .slice a4 l4 c4] w fun e w' => ∃ gm ae, e = .returned (.pointer (some ⟨gm, 0, none⟩)) ∧ Below w.heap.size w w' ∧ w'.cell? ⟨gm, 1, none⟩ = some (.slice ae n n) ∧ Ents w' ae n E := by
  cases ao with
  | none =>
    obtain ⟨rfl, _⟩ := hnil rfl
    exact auth_none a0 a3 a4 l0 c0 l3 c3 l4 c4 t E w
  | some x => exact auth_some a0 a3 a4 x l0 c0 n l3 c3 l4 c4 t E w hE hn

end Go.Proofs.Qxb6605859aFmt
