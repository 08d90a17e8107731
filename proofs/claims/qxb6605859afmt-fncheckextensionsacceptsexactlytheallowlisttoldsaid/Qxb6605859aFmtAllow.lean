import Derived.Test.Qxb6605859aFmtSum
import Derived.Test.Qxb6605859aFmtCheck2
namespace Go.Proofs.Qxb6605859aFmt
open Go.ChangeShapes Go.WideShapes Go.ChangeAt Go.RowKit
open Go.Extern.Stop Go.Stop Go.Extern
set_option linter.unusedVariables false

/-- As 'Ents', every block on the way from B on. -/
def EntsB (w : World) (B : Nat) (ao : Option Addr) (n : Nat) (E : Nat → Ent) : Prop :=
  n = 0 ∨ ∃ b off, ao = some ⟨b, off, none⟩ ∧ B ≤ b ∧ ∀ i, i < n → w.cell? ⟨b, off + i * 2, none⟩ = some (.slice (E i).ca (E i).cl (E i).cc) ∧ w.cell? ⟨b, off + i * 2 + 1, none⟩ = some (.slice (E i).ea (E i).el (E i).ec) ∧
    Row .u8 w B (E i).ca (E i).cz ∧ Row .u16 w B (E i).ea (E i).ez ∧ (E i).Ok w

theorem EntsB.ents {w : World} {B : Nat} {ao : Option Addr} {n : Nat} {E : Nat → Ent} (h : EntsB w B ao n E) : Ents w ao n E := by
  rcases h with h | ⟨b, off, rfl, hB, hc⟩
  · exact .inl h
  · exact .inr ⟨b, off, rfl, fun i hi => let ⟨h0, h1, _, _, h4⟩ := hc i hi; ⟨h0, h1, h4⟩⟩

theorem EntsB.later {w w' : World} {B : Nat} {ao : Option Addr} {n : Nat} {E : Nat → Ent} (h : EntsB w B ao n E) (hb : Below w.heap.size w w') : EntsB w' B ao n E := by
  rcases h with h | ⟨b, off, rfl, hB, hc⟩
  · exact .inl h
  · refine .inr ⟨b, off, rfl, hB, fun i hi => ?_⟩
    obtain ⟨h0, h1, h2, h3, h4⟩ := hc i hi
    refine ⟨?_, ?_, h2.later hb, h3.later hb, h4.later hb⟩
    · rw [hb.cell (p := ⟨b, off + i * 2, none⟩) (lt_of_cell h0)]; exact h0
    · rw [hb.cell (p := ⟨b, off + i * 2 + 1, none⟩) (lt_of_cell h1)]; exact h1

theorem EntsB.setCell {w : World} {B g o : Nat} {ao : Option Addr} {n : Nat} {E : Nat → Ent} (h : EntsB w B ao n E) (hg : g < B) (u : Value) : EntsB (w.setCell ⟨g, o, none⟩ u) B ao n E := by
  rcases h with h | ⟨b, off, rfl, hB, hc⟩
  · exact .inl h
  · refine .inr ⟨b, off, rfl, hB, fun i hi => ?_⟩
    obtain ⟨h0, h1, h2, h3, h4⟩ := hc i hi
    have k2 := h2.setCell (a := ⟨g, o, none⟩) hg u
    have k3 := h3.setCell (a := ⟨g, o, none⟩) hg u
    refine ⟨?_, ?_, k2, k3, ⟨h4.clen, k2.mono (Nat.zero_le _), h4.cnil, h4.elen, k3.mono (Nat.zero_le _), h4.enil, h4.cmax, h4.emax⟩⟩
    · rw [set_far (by omega)]; exact h0
    · rw [set_far (by omega)]; exact h1

theorem CLoop.entsB {w wr : World} {n : Nat} {E : Nat → Ent} (h : CLoop w n n E wr) : ∃ E', EntsB wr w.heap.size (some ⟨w.heap.size, 0, none⟩) n E' ∧ ∀ i, i < n → (E' i).ez = (E i).ez := by
  obtain ⟨E', hE'⟩ := @Go.Deep.choose_lt Ent ⟨⟨none, 0, 0, [], none, 0, 0, []⟩⟩ n (fun j F => F.Laid wr w.heap.size j ∧ F.ez = (E j).ez) h.done
  refine ⟨E', .inr ⟨w.heap.size, 0, rfl, Nat.le_refl _, fun i hi => ?_⟩, fun i hi => (hE' i hi).2⟩
  have := (hE' i hi).1
  rw [Nat.zero_add]
  exact ⟨this.c0, this.c1, this.crow.mono (Nat.le_succ _), this.erow.mono (Nat.le_succ _), this.ok⟩

set_option maxRecDepth 100000 in
set_option maxHeartbeats 1000000 in
theorem cloneEntsB (ao : Option Addr) (n cn : Nat) (E : Nat → Ent) (w : World) (hE : Ents w ao n E) (hnil : ao = none → n = 0 ∧ cn = 0) (hn : n ≤ 32768) (hs : Smalls n E) :
    Calls Tryf.prog 8 #[.slice ao n cn] w fun e w' => ∃ a' E', e = .returned (.slice a' n n) ∧ Below w.heap.size w w' ∧ EntsB w' w.heap.size a' n E' ∧ (a' = none → n = 0 ∧ n = 0) ∧ ∀ i, i < n → (E' i).ez = (E i).ez := by
  have heq := fun wx => Lib.run_eql_slice_nil (P := Tryf.prog) wx 23 31 ao n cn 0 0 Tryf.underlying23
  cases ao with
  | none =>
    obtain ⟨rfl, rfl⟩ := hnil rfl
    clear hnil hE
    go_enter Tryf.func8, Tryf.ntmps8
    go_wp2
    go_ret
    exact ⟨none, E, rfl, Below.refl _ _, .inl rfl, fun _ => by simp, fun i hi => rfl⟩
  | some x =>
    obtain ⟨i0, hi, hz0, hz1, hz2⟩ := info_parts info31
    have HE := hide hE
    clear hnil hE
    go_enter Tryf.func8, Tryf.ntmps8
    go_wp2_with (at_make; refine wpList_make_full _ rfl _ _ 23 rfl w.heap.size 31 i0 _ 2 Tryf.underlying23 hi hz0 hz1 _ _ _ _ n rfl rfl rfl rfl (by rw [hz2]; omega) (by unfold maxLen; omega) (Nat.le_refl _) ?_; intro w1 hown hgrow; have hblk := block_of_owns hown; clear hown)
    have hC : CLoop w n 0 E w1 := ⟨(Below.refl _ _).grown hgrow (Nat.le_refl _) (by intro k hk; cases hk), ⟨_, hblk.1, by simpa using hblk.2⟩, fun j hj => by omega⟩
    clear hblk hgrow
    go_loopw [4] (fun i wr => ∃ k : Nat, k ≤ n ∧ i = .int .i64 k ∧ CLoop w n k E wr) (fun i _ => n - (intOf i).toNat)
    case atStart => exact ⟨0, Nat.zero_le _, rfl, hC⟩
    case round =>
      obtain ⟨k, hk, rfl, hL⟩ := hrel
      clear hC
      by_cases hlt : k < n
      · obtain ⟨b, off, hx, h0, h1, hok⟩ := HE.out.at hlt
        obtain rfl : x = ⟨b, off, none⟩ := by simpa using hx
        clear hx
        have hlt' : (k : Int) < (n : Int) := by omega
        have hbl : b < w.heap.size := lt_of_cell h0
        have h0r := (hL.below.cell (p := ⟨b, off + k * 2, none⟩) hbl).trans h0
        have hokr := hok.later hL.below
        obtain ⟨hs0, hs1⟩ := hs k hlt
        go_wp2_with fail
        refine (clone8 _ _ _ (E k).cz _ hokr.clen hokr.crow hokr.cnil (by omega)).mono ?_
        rintro e w2 ⟨a1, rfl, hB2, hr1, hn1⟩
        have hL2 := hL.later hB2
        have hr1' : Row .u8 w2 (w.heap.size + 1) a1 (E k).cz := hr1.mono (by have := hL.blk.lt; omega)
        obtain ⟨v0, hv0⟩ := hL2.blk.cell (o := k * 2) (by omega)
        have hf0 := hL2.blk.free (k * 2)
        have hL3 := hL2.set (o := k * 2) (Nat.le_refl _) (.slice a1 (E k).cl (E k).cl)
        have h1r : (w2.setCell ⟨w.heap.size, k * 2, none⟩ (.slice a1 (E k).cl (E k).cl)).cell? ⟨b, off + k * 2 + 1, none⟩ = some (.slice (E k).ea (E k).el (E k).ec) :=
          (hL3.below.cell (p := ⟨b, off + k * 2 + 1, none⟩) hbl).trans h1
        have hok3 := hok.later hL3.below
        have h03 := set_same (u := .slice a1 (E k).cl (E k).cl) hv0
        have hr13 := hr1'.setCell (a := ⟨w.heap.size, k * 2, none⟩) (Nat.lt_succ_self _) (.slice a1 (E k).cl (E k).cl)
        clear hL hB2 hr1 hr1' hL2 h0r hokr h0
        go_wp2_with fail
        refine (clone16 _ _ _ (E k).ez _ hok3.elen hok3.erow hok3.enil (by omega)).mono ?_
        rintro e w4 ⟨a2, rfl, hB4, hr2, hn2⟩
        have hL4 := hL3.later hB4
        have hr2' : Row .u16 w4 (w.heap.size + 1) a2 (E k).ez := hr2.mono (by have := hL3.blk.lt; omega)
        have h04 : w4.cell? ⟨w.heap.size, k * 2, none⟩ = some (.slice a1 (E k).cl (E k).cl) := (hB4.cell (p := ⟨w.heap.size, k * 2, none⟩) hL3.blk.lt).trans h03
        have hr14 := hr13.later hB4
        obtain ⟨v1, hv1⟩ := hL4.blk.cell (o := k * 2 + 1) (by omega)
        have hf1 := hL4.blk.free (k * 2 + 1)
        have hN := CLoop.next (w1 := w) hL4 hlt a1 a2 h04 hr14 hn1 hr2' hn2 hok
        clear hL3 hL4 hB4 hr2 hr2' hr13 hr14 h04 h03 hok3 h1r hf0 hv0
        go_wp2
        go_roundw
        case rel => exact ⟨k + 1, by omega, by go_num, hN⟩
        case measure => simp [intOf]; omega
      · obtain rfl : k = n := by omega
        obtain ⟨E', hE', hez⟩ := hL.entsB
        have hB := hL.below
        clear hL
        go_wp2
        go_ret
        exact ⟨_, E', rfl, hB, hE', fun h => (by cases h), hez⟩

/-! ### membership in the allow list -/
def inB (az : List Int) (t : Int) : Bool := decide (t ∈ az)
theorem inB_true {az : List Int} {t : Int} : inB az t = true ↔ t ∈ az := by simp [inB]
theorem inB_get {az : List Int} {k : Nat} (h : k < az.length) : inB az (az.getD k 0) = true := by rw [inB_true]; simp [h]

/-- The first k of az are none of them t. -/
def Nots (az : List Int) (t : Int) (k : Nat) : Prop := ∀ i, i < k → az.getD i 0 ≠ t
theorem nots_all {az : List Int} {t : Int} (h : Nots az t az.length) : inB az t = false := by
  cases hb : inB az t with
  | false => rfl
  | true =>
    rw [inB_true] at hb
    obtain ⟨j, hj, rfl⟩ := List.getElem_of_mem hb
    exact absurd (by simp [hj]) (h j hj)

set_option maxRecDepth 100000 in
set_option maxHeartbeats 1000000 in
theorem closure14 (az : List Int) (t : Int) (gc la : Nat) (aa : Option Addr) (w : World) (hc : w.cell? ⟨gc, 0, none⟩ = some (.slice aa la la)) (hr : Row .u16 w 0 aa az) (hl : az.length = la) (hm : la ≤ 1048576) :
    Calls Tryf.prog 14 #[.int .u16 t, .pointer (some ⟨gc, 0, none⟩)] w fun e w' => e = .returned (.bool (inB az t)) ∧ w' = w := by
  have HR := hide hr
  have HL := hide hl
  clear hr hl
  obtain ⟨b, hb⟩ : ∃ b, b = inB az t := ⟨_, rfl⟩
  rw [← hb]
  have HB := hide hb
  clear hb
  go_enter Tryf.func14, Tryf.ntmps14
  go_wp2
  go_loop [4] (fun i => ∃ k : Nat, k ≤ la ∧ i = .int .i64 k ∧ Nots az t k) (fun i => la - (intOf i).toNat)
  case atStart => exact ⟨0, Nat.zero_le _, rfl, fun i hi => by omega⟩
  case round =>
    obtain ⟨k, hk, rfl, hN⟩ := hrel
    by_cases hlt : k < la
    · obtain ⟨xb, xo, rfl, hcell⟩ := HR.out.at (j := k) (by rw [HL.out]; exact hlt)
      obtain ⟨x, hx⟩ : ∃ x, x = az.getD k 0 := ⟨_, rfl⟩
      rw [← hx] at hcell
      have HX := hide hx
      clear hx
      have hlt' : (k : Int) < (la : Int) := by omega
      by_cases he : x = t
      · have hbt : b = true := by
          rw [HB.out, ← he, HX.out]
          exact inB_get (by rw [HL.out]; exact hlt)
        subst hbt
        have hd : (x == t) = true := by simpa using he
        clear he
        go_wp2
        go_ret
        exact ⟨rfl, rfl⟩
      · have hN' : Nots az t (k + 1) := by
          intro i hi
          by_cases e : i = k
          · subst e; rw [← HX.out]; exact he
          · exact hN i (by omega)
        have hd : (x == t) = false := by simpa using he
        clear he hN
        go_wp2
        go_round
        case rel => exact ⟨k + 1, by omega, by go_num, hN'⟩
        case measure => simp [intOf]; omega
    · have hbf : b = false := by
        rw [HB.out]
        exact nots_all (by rw [HL.out, show la = k from by omega]; exact hN)
      subst hbf
      clear hN
      go_wp2
      go_ret
      exact ⟨rfl, rfl⟩

set_option maxRecDepth 100000 in
set_option maxHeartbeats 1000000 in
theorem closure15 (az : List Int) (t : Int) (gc la : Nat) (aa : Option Addr) (w : World) (hc : w.cell? ⟨gc, 0, none⟩ = some (.slice aa la la)) (hr : Row .u16 w 0 aa az) (hl : az.length = la) (hm : la ≤ 1048576) :
    Calls Tryf.prog 15 #[.int .u16 t, .pointer (some ⟨gc, 0, none⟩)] w fun e w' => e = .returned (.bool (inB az t)) ∧ w' = w := by
  have HR := hide hr
  have HL := hide hl
  clear hr hl
  obtain ⟨b, hb⟩ : ∃ b, b = inB az t := ⟨_, rfl⟩
  rw [← hb]
  have HB := hide hb
  clear hb
  go_enter Tryf.func15, Tryf.ntmps15
  go_wp2
  go_loop [4] (fun i => ∃ k : Nat, k ≤ la ∧ i = .int .i64 k ∧ Nots az t k) (fun i => la - (intOf i).toNat)
  case atStart => exact ⟨0, Nat.zero_le _, rfl, fun i hi => by omega⟩
  case round =>
    obtain ⟨k, hk, rfl, hN⟩ := hrel
    by_cases hlt : k < la
    · obtain ⟨xb, xo, rfl, hcell⟩ := HR.out.at (j := k) (by rw [HL.out]; exact hlt)
      obtain ⟨x, hx⟩ : ∃ x, x = az.getD k 0 := ⟨_, rfl⟩
      rw [← hx] at hcell
      have HX := hide hx
      clear hx
      have hlt' : (k : Int) < (la : Int) := by omega
      by_cases he : x = t
      · have hbt : b = true := by
          rw [HB.out, ← he, HX.out]
          exact inB_get (by rw [HL.out]; exact hlt)
        subst hbt
        have hd : (x == t) = true := by simpa using he
        clear he
        go_wp2
        go_ret
        exact ⟨rfl, rfl⟩
      · have hN' : Nots az t (k + 1) := by
          intro i hi
          by_cases e : i = k
          · subst e; rw [← HX.out]; exact he
          · exact hN i (by omega)
        have hd : (x == t) = false := by simpa using he
        clear he hN
        go_wp2
        go_round
        case rel => exact ⟨k + 1, by omega, by go_num, hN'⟩
        case measure => simp [intOf]; omega
    · have hbf : b = false := by
        rw [HB.out]
        exact nots_all (by rw [HL.out, show la = k from by omega]; exact hN)
      subst hbf
      clear hN
      go_wp2
      go_ret
      exact ⟨rfl, rfl⟩

end Go.Proofs.Qxb6605859aFmt
