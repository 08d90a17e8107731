import Derived.Test.Qxb6605859aFmtEnts
import Derived.Laws.Rows
import Derived.Deep.Slices
namespace Go.Proofs.Qxb6605859aFmt
open Go.ChangeShapes Go.WideShapes Go.ChangeAt Go.RowKit
set_option linter.unusedVariables false

/-- Block g: a row of m cells of type t, none frozen. -/
def Blk (w : World) (g t m : Nat) : Prop := ∃ cs, w.heap[g]? = some (.cells cs t (0, 0)) ∧ cs.size = m

theorem Blk.cell {w : World} {g t m o : Nat} (h : Blk w g t m) (ho : o < m) : ∃ v, w.cell? ⟨g, o, none⟩ = some v := by
  obtain ⟨cs, hg, rfl⟩ := h
  exact ⟨cs[o], by simp [World.cell?, hg, ho]⟩
theorem Blk.free {w : World} {g t m : Nat} (h : Blk w g t m) (o : Nat) : w.frozen? ⟨g, o, none⟩ = false := by
  obtain ⟨cs, hg, rfl⟩ := h
  simp [World.frozen?, hg]
theorem Blk.lt {w : World} {g t m : Nat} (h : Blk w g t m) : g < w.heap.size := by
  obtain ⟨cs, hg, _⟩ := h
  exact lt_of_block hg
theorem Blk.later {w w' : World} {g t m : Nat} (h : Blk w g t m) (hb : Below w.heap.size w w') : Blk w' g t m := by
  have hl := h.lt
  obtain ⟨cs, hg, hs⟩ := h
  exact ⟨cs, by rw [hb.block g hl]; exact hg, hs⟩
theorem Blk.set {w : World} {g t m : Nat} (h : Blk w g t m) (o : Nat) (u : Value) : Blk (w.setCell ⟨g, o, none⟩ u) g t m := by
  obtain ⟨cs, hg, hs⟩ := h
  exact ⟨cs.setIfInBounds o u, heap_setCell_same w g o cs t u hg, by simpa using hs⟩

theorem set_other {w : World} {g o o' : Nat} {u : Value} (h : o ≠ o') : (w.setCell ⟨g, o, none⟩ u).cell? ⟨g, o', none⟩ = w.cell? ⟨g, o', none⟩ :=
  World.cell?_setCell_other w ⟨g, o, none⟩ ⟨g, o', none⟩ u (fun e => h (congrArg Addr.off e))
theorem set_far {w : World} {g g' o o' : Nat} {u : Value} (h : g ≠ g') : (w.setCell ⟨g, o, none⟩ u).cell? ⟨g', o', none⟩ = w.cell? ⟨g', o', none⟩ :=
  World.cell?_setCell_other w ⟨g, o, none⟩ ⟨g', o', none⟩ u (fun e => h (congrArg Addr.block e))
theorem set_same {w : World} {g o : Nat} {u v : Value} (h : w.cell? ⟨g, o, none⟩ = some v) : (w.setCell ⟨g, o, none⟩ u).cell? ⟨g, o, none⟩ = some u :=
  World.cell?_setCell_same w ⟨g, o, none⟩ u h

/-- An entry's cells at place j of block g, its rows in blocks behind g. -/
structure Ent.Laid (F : Ent) (w : World) (g j : Nat) : Prop where
  c0 : w.cell? ⟨g, j * 2, none⟩ = some (.slice F.ca F.cl F.cc)
  c1 : w.cell? ⟨g, j * 2 + 1, none⟩ = some (.slice F.ea F.el F.ec)
  clen : F.cz.length = F.cl
  crow : Row .u8 w (g + 1) F.ca F.cz
  cnil : F.ca = none → F.cl = 0 ∧ F.cc = 0
  elen : F.ez.length = F.el
  erow : Row .u16 w (g + 1) F.ea F.ez
  enil : F.ea = none → F.el = 0 ∧ F.ec = 0
  cmax : F.cl ≤ 9223372036854775807
  emax : F.el ≤ 9223372036854775807

theorem Ent.Laid.later {F : Ent} {w w' : World} {g j : Nat} (h : F.Laid w g j) (hb : Below w.heap.size w w') : F.Laid w' g j :=
  ⟨by rw [hb.cell (p := ⟨g, j * 2, none⟩) (lt_of_cell h.c0)]; exact h.c0, by rw [hb.cell (p := ⟨g, j * 2 + 1, none⟩) (lt_of_cell h.c1)]; exact h.c1,
    h.clen, h.crow.later hb, h.cnil, h.elen, h.erow.later hb, h.enil, h.cmax, h.emax⟩

theorem Ent.Laid.set {F : Ent} {w : World} {g j : Nat} (h : F.Laid w g j) {o : Nat} (h0 : o ≠ j * 2) (h1 : o ≠ j * 2 + 1) (u : Value) : F.Laid (w.setCell ⟨g, o, none⟩ u) g j :=
  ⟨by rw [set_other h0]; exact h.c0, by rw [set_other h1]; exact h.c1,
    h.clen, h.crow.setCell (a := ⟨g, o, none⟩) (Nat.lt_succ_self g) u, h.cnil, h.elen, h.erow.setCell (a := ⟨g, o, none⟩) (Nat.lt_succ_self g) u, h.enil, h.cmax, h.emax⟩

theorem Ent.Laid.ok {F : Ent} {w : World} {g j : Nat} (h : F.Laid w g j) : F.Ok w :=
  ⟨h.clen, h.crow.mono (Nat.zero_le _), h.cnil, h.elen, h.erow.mono (Nat.zero_le _), h.enil, h.cmax, h.emax⟩

/-- Behind k rounds of the copying loop. -/
structure CLoop (w : World) (n k : Nat) (E : Nat → Ent) (wr : World) : Prop where
  below : Below w.heap.size w wr
  blk : Blk wr w.heap.size 31 (n * 2)
  done : ∀ j, j < k → ∃ F : Ent, F.Laid wr w.heap.size j ∧ F.ez = (E j).ez

theorem CLoop.later {w wr w' : World} {n k : Nat} {E : Nat → Ent} (h : CLoop w n k E wr) (hb : Below wr.heap.size wr w') : CLoop w n k E w' :=
  ⟨h.below.trans (hb.mono h.below.size), h.blk.later hb, fun j hj => let ⟨F, hF, e⟩ := h.done j hj; ⟨F, hF.later hb, e⟩⟩

theorem CLoop.set {w wr : World} {n k : Nat} {E : Nat → Ent} (h : CLoop w n k E wr) {o : Nat} (ho : k * 2 ≤ o) (u : Value) : CLoop w n k E (wr.setCell ⟨w.heap.size, o, none⟩ u) :=
  ⟨h.below.setCell (p := ⟨w.heap.size, o, none⟩) (Nat.le_refl _) u, h.blk.set o u, fun j hj => let ⟨F, hF, e⟩ := h.done j hj; ⟨F, hF.set (by omega) (by omega) u, e⟩⟩

/-- The end of a round: the two stores have laid entry k. -/
theorem CLoop.next {w w1 w3 : World} {n k : Nat} {E : Nat → Ent} (h : CLoop w n k E w3) (hk : k < n) (a1 a2 : Option Addr)
    (h0 : w3.cell? ⟨w.heap.size, k * 2, none⟩ = some (.slice a1 (E k).cl (E k).cl)) (hr1 : Row .u8 w3 (w.heap.size + 1) a1 (E k).cz) (hn1 : a1 = none → (E k).cl = 0 ∧ (E k).cl = 0)
    (hr2 : Row .u16 w3 (w.heap.size + 1) a2 (E k).ez) (hn2 : a2 = none → (E k).el = 0 ∧ (E k).el = 0) (hok : (E k).Ok w1) :
    CLoop w n (k + 1) E (w3.setCell ⟨w.heap.size, k * 2 + 1, none⟩ (.slice a2 (E k).el (E k).el)) := by
  have hs := h.set (o := k * 2 + 1) (by omega) (.slice a2 (E k).el (E k).el)
  refine ⟨hs.below, hs.blk, fun j hj => ?_⟩
  by_cases e : j = k
  · subst e
    obtain ⟨v, hv⟩ := h.blk.cell (o := j * 2 + 1) (by omega)
    refine ⟨⟨a1, (E j).cl, (E j).cl, (E j).cz, a2, (E j).el, (E j).el, (E j).ez⟩, ⟨?_, ?_, hok.clen, ?_, hn1, hok.elen, ?_, hn2, hok.cmax, hok.emax⟩, rfl⟩
    · rw [set_other (by omega)]; exact h0
    · exact set_same hv
    · exact hr1.setCell (a := ⟨w.heap.size, j * 2 + 1, none⟩) (Nat.lt_succ_self _) _
    · exact hr2.setCell (a := ⟨w.heap.size, j * 2 + 1, none⟩) (Nat.lt_succ_self _) _
  · exact hs.done j (by omega)

theorem CLoop.ents {w wr : World} {n : Nat} {E : Nat → Ent} (h : CLoop w n n E wr) : ∃ E', Ents wr (some ⟨w.heap.size, 0, none⟩) n E' ∧ ∀ i, i < n → (E' i).ez = (E i).ez := by
  obtain ⟨E', hE'⟩ := @Go.Deep.choose_lt Ent ⟨⟨none, 0, 0, [], none, 0, 0, []⟩⟩ n (fun j F => F.Laid wr w.heap.size j ∧ F.ez = (E j).ez) h.done
  refine ⟨E', .inr ⟨w.heap.size, 0, rfl, fun i hi => ?_⟩, fun i hi => (hE' i hi).2⟩
  have := (hE' i hi).1
  rw [Nat.zero_add]
  exact ⟨this.c0, this.c1, this.ok⟩

theorem info31 : (Tryf.prog.info? 31).map (fun i => (i.zero, i.size, i.bytes)) = some (some (.agg #[.slice none 0 0, .slice none 0 0]), 2, 48) := by kernel_rfl

set_option maxRecDepth 100000 in
set_option maxHeartbeats 1000000 in
theorem cloneEnts (ao : Option Addr) (n cn : Nat) (E : Nat → Ent) (w : World) (hE : Ents w ao n E) (hnil : ao = none → n = 0 ∧ cn = 0) (hn : n ≤ 32768) (hs : Smalls n E) :
    Calls Tryf.prog 8 #[.slice ao n cn] w fun e w' => ∃ a' E', e = .returned (.slice a' n n) ∧ Below w.heap.size w w' ∧ Ents w' a' n E' ∧ (a' = none → n = 0 ∧ n = 0) ∧ ∀ i, i < n → (E' i).ez = (E i).ez := by
  have heq := fun wx => Lib.run_eql_slice_nil (P := Tryf.prog) wx 23 31 ao n cn 0 0 Tryf.underlying23
  cases ao with
  | none =>
    obtain ⟨rfl, rfl⟩ := hnil rfl
    clear hnil hE
    go_enter Tryf.func8, Tryf.ntmps8
    go_wp2
    go_ret
    exact ⟨none, E, rfl, Below.refl _ _, .inl rfl, fun _ => by simp, fun i hi => rfl⟩
  | some x =>
    obtain ⟨i0, hi, hz0, hz1, hz2⟩ := info_parts info31
    have HE := hide hE
    clear hnil hE
    go_enter Tryf.func8, Tryf.ntmps8
    go_wp2_with (at_make; refine wpList_make_full _ rfl _ _ 23 rfl w.heap.size 31 i0 _ 2 Tryf.underlying23 hi hz0 hz1 _ _ _ _ n rfl rfl rfl rfl (by rw [hz2]; omega) (by unfold maxLen; omega) (Nat.le_refl _) ?_; intro w1 hown hgrow; have hblk := block_of_owns hown; clear hown)
    have hC : CLoop w n 0 E w1 := ⟨(Below.refl _ _).grown hgrow (Nat.le_refl _) (by intro k hk; cases hk), ⟨_, hblk.1, by simpa using hblk.2⟩, fun j hj => by omega⟩
    clear hblk hgrow
    go_loopw [4] (fun i wr => ∃ k : Nat, k ≤ n ∧ i = .int .i64 k ∧ CLoop w n k E wr) (fun i _ => n - (intOf i).toNat)
    case atStart => exact ⟨0, Nat.zero_le _, rfl, hC⟩
    case round =>
      obtain ⟨k, hk, rfl, hL⟩ := hrel
      clear hC
      by_cases hlt : k < n
      · obtain ⟨b, off, hx, h0, h1, hok⟩ := HE.out.at hlt
        obtain rfl : x = ⟨b, off, none⟩ := by simpa using hx
        clear hx
        have hlt' : (k : Int) < (n : Int) := by omega
        have hbl : b < w.heap.size := lt_of_cell h0
        have h0r := (hL.below.cell (p := ⟨b, off + k * 2, none⟩) hbl).trans h0
        have hokr := hok.later hL.below
        obtain ⟨hs0, hs1⟩ := hs k hlt
        go_wp2_with fail
        refine (clone8 _ _ _ (E k).cz _ hokr.clen hokr.crow hokr.cnil (by omega)).mono ?_
        rintro e w2 ⟨a1, rfl, hB2, hr1, hn1⟩
        have hL2 := hL.later hB2
        have hr1' : Row .u8 w2 (w.heap.size + 1) a1 (E k).cz := hr1.mono (by have := hL.blk.lt; omega)
        obtain ⟨v0, hv0⟩ := hL2.blk.cell (o := k * 2) (by omega)
        have hf0 := hL2.blk.free (k * 2)
        have hL3 := hL2.set (o := k * 2) (Nat.le_refl _) (.slice a1 (E k).cl (E k).cl)
        have h1r : (w2.setCell ⟨w.heap.size, k * 2, none⟩ (.slice a1 (E k).cl (E k).cl)).cell? ⟨b, off + k * 2 + 1, none⟩ = some (.slice (E k).ea (E k).el (E k).ec) :=
          (hL3.below.cell (p := ⟨b, off + k * 2 + 1, none⟩) hbl).trans h1
        have hok3 := hok.later hL3.below
        have h03 := set_same (u := .slice a1 (E k).cl (E k).cl) hv0
        have hr13 := hr1'.setCell (a := ⟨w.heap.size, k * 2, none⟩) (Nat.lt_succ_self _) (.slice a1 (E k).cl (E k).cl)
        clear hL hB2 hr1 hr1' hL2 h0r hokr h0
        go_wp2_with fail
        refine (clone16 _ _ _ (E k).ez _ hok3.elen hok3.erow hok3.enil (by omega)).mono ?_
        rintro e w4 ⟨a2, rfl, hB4, hr2, hn2⟩
        have hL4 := hL3.later hB4
        have hr2' : Row .u16 w4 (w.heap.size + 1) a2 (E k).ez := hr2.mono (by have := hL3.blk.lt; omega)
        have h04 : w4.cell? ⟨w.heap.size, k * 2, none⟩ = some (.slice a1 (E k).cl (E k).cl) := (hB4.cell (p := ⟨w.heap.size, k * 2, none⟩) hL3.blk.lt).trans h03
        have hr14 := hr13.later hB4
        obtain ⟨v1, hv1⟩ := hL4.blk.cell (o := k * 2 + 1) (by omega)
        have hf1 := hL4.blk.free (k * 2 + 1)
        have hN := CLoop.next (w1 := w) hL4 hlt a1 a2 h04 hr14 hn1 hr2' hn2 hok
        clear hL3 hL4 hB4 hr2 hr2' hr13 hr14 h04 h03 hok3 h1r hf0 hv0
        go_wp2
        go_roundw
        case rel => exact ⟨k + 1, by omega, by go_num, hN⟩
        case measure => simp [intOf]; omega
      · obtain rfl : k = n := by omega
        obtain ⟨E', hE', hez⟩ := hL.ents
        have hB := hL.below
        clear hL
        go_wp2
        go_ret
        exact ⟨_, E', rfl, hB, hE', fun h => (by cases h), hez⟩

end Go.Proofs.Qxb6605859aFmt
