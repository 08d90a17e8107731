import Derived.Test.Qxb6605859aFmtOpen
import Derived.Test.Qxb6605859aFmtAllowWalk
namespace Go.Proofs.Qxb6605859aFmt
open Go.ChangeShapes Go.WideShapes Go.ChangeAt Go.RowKit Go.Kit
open Go.ChangeMaps (open_string shut_string)
open Go.Extern.Stop Go.Stop Go.Extern
set_option linter.unusedVariables false

theorem allow_any (F : Interp) (a0 a3 a4 ao aw : Option Addr) (l0 c0 n cn l3 c3 l4 c4 lw cw : Nat) (z0 z3 z4 az : List Int) (t : Int) (r : ByteArray) (E : Nat → Ent) (w : World) (hF : F.answers w.tape)
    (h0 : In8 w a0 l0 c0 z0) (h3 : In8 w a3 l3 c3 z3) (h4 : In8 w a4 l4 c4 z4) (hw : In16 w aw lw cw az) (hE : Ents w ao n E) (hu : ∀ i, i < n → U16 (E i).ez) (hnil : ao = none → n = 0 ∧ cn = 0) (hn : n ≤ 9223372036854775807) (hr : r.size ≤ 9223372036854775807) :
    Calls Tryf.prog 4 #[.slice a0 l0 c0, .slice ao n cn, .int .u16 t, .slice a3 l3 c3, .slice a4 l4 c4, .slice aw lw cw, .string r] w fun e w' => e = .returned (.bool true) ∧ Below w.heap.size w w' := by
  by_cases hs : Small2 l0 l3 l4 r.size lw n
  · exact allow_small F a0 a3 a4 ao aw l0 c0 n cn l3 c3 l4 c4 lw cw z0 z3 z4 az t r E w hF h0 h3 h4 hw hE hu hnil hn hr hs
  · exact allow_big F a0 a3 a4 ao aw l0 c0 n cn l3 c3 l4 c4 lw cw z0 z3 z4 az t r E w hF h0 h3 h4 hw hE hu hnil hn hr hs

section
variable {H : Type} {enc : TypeId × Value → H} {W : World}

theorem u16_of_wf {zs : List Int} (h : ∀ n ∈ zs, (Lit.int .u16 n).wf = true) : U16 zs := by
  intro t ht
  have := h t ht
  simp [Lit.wf, IntKind.min, IntKind.max, IntKind.signed, IntKind.bits] at this
  omega

theorem open_row16 {fuel : Nat} {v : Value} {x : DataW H × List MemPlace} (h : DataW.trod enc Tryf.prog W 0 (fun _ => true) true fuel 29 [v] = some x) :
    ∃ (a : Option Addr) (l c : Nat) (zs : List Int), v = .slice a l c ∧ In16 W a l c zs := by
  rcases open_ints Tryf.underlying29 Tryf.underlying24 Tryf.cells24 h with ⟨hcs, _⟩ | ⟨a, l, c, zs, hcs, _, hl, hm, hz, _, hcell, hwz⟩
  · simp at hcs
    subst hcs
    exact ⟨none, 0, 0, [], rfl, ⟨rfl, .inl rfl, fun _ => ⟨rfl, rfl⟩, by omega, fun t ht => by cases ht⟩⟩
  · simp at hcs
    subst hcs
    simp at hz
    unfold maxLen at hm
    exact ⟨some a, l, c, zs.take l, rfl, ⟨by simp; omega, row_of_cells hcell l, fun h => (by cases h), by omega, u16_of_wf fun n hn => hwz n (List.mem_of_mem_take hn)⟩⟩

theorem open_allow {v : Value} {d : DataW H} {p : List MemPlace} (h : DataW.Trod enc Tryf.prog W 0 (fun _ => true) true 29 v d p) (hv : ∃ a l c, v = .slice a l c) : ∃ a l c zs, v = .slice a l c ∧ In16 W a l c zs := by
  obtain ⟨fuel, hf⟩ := h
  obtain ⟨a, l, c, rfl⟩ := hv
  exact open_row16 (v := .slice a l c) (by simpa [Value.cells] using hf)

theorem open_entsU {v : Value} {d : DataW H} {p : List MemPlace} (h : DataW.Trod enc Tryf.prog W 0 (fun _ => true) true 23 v d p) (hv : ∃ a l c, v = .slice a l c) :
    ∃ a n c E, v = .slice a n c ∧ Ents W a n E ∧ (∀ i, i < n → U16 (E i).ez) ∧ (a = none → n = 0 ∧ c = 0) ∧ n ≤ 9223372036854775807 := by
  obtain ⟨fuel, hf⟩ := h
  obtain ⟨a, l, c, rfl⟩ := hv
  have hf' : DataW.trod enc Tryf.prog W 0 (fun _ => true) true fuel 23 [.slice a l c] = some (d, p) := by simpa [Value.cells] using hf
  rcases Go.Deep.open_slice_pairs Tryf.underlying23 Tryf.underlying31 (by kernel_rfl) (by kernel_rfl) (by kernel_rfl) (by kernel_rfl) (by kernel_rfl) hf' with ⟨hcs, _⟩ | ⟨x, len, cap, m, q, V0, V1, D0, D1, P0, P1, hcs, _, hl, hm, hmm, _, hall⟩
  · simp at hcs
    obtain ⟨rfl, rfl, rfl⟩ := hcs
    exact ⟨none, 0, 0, fun _ => ⟨none, 0, 0, [], none, 0, 0, []⟩, rfl, .inl rfl, fun i hi => (by omega), fun _ => ⟨rfl, rfl⟩, by omega⟩
  · simp at hcs
    obtain ⟨rfl, rfl, rfl⟩ := hcs
    simp at hmm
    subst hmm
    unfold maxLen at hm
    have each : ∀ i, i < m → ∃ F : Ent, V0 i = .slice F.ca F.cl F.cc ∧ V1 i = .slice F.ea F.el F.ec ∧ F.Ok W ∧ U16 F.ez := by
      intro i hi
      obtain ⟨_, _, g0, g1⟩ := hall i hi
      obtain ⟨a0, l0, c0, z0, e0, h1, h2, h3, h4⟩ := open_row Tryf.underlying22 Tryf.underlying5 Tryf.cells5 g0
      obtain ⟨a1, l1, c1, z1, e1, k⟩ := open_row16 g1
      exact ⟨⟨a0, l0, c0, z0, a1, l1, c1, z1⟩, e0, e1, ⟨h1, h2, h3, k.len, k.row, k.nil, h4, k.max⟩, k.bnd⟩
    obtain ⟨E, hE⟩ := @Go.Deep.choose_lt Ent ⟨⟨none, 0, 0, [], none, 0, 0, []⟩⟩ m (fun i F => V0 i = .slice F.ca F.cl F.cc ∧ V1 i = .slice F.ea F.el F.ec ∧ F.Ok W ∧ U16 F.ez) each
    refine ⟨some x, l, m, E, rfl, ?_, fun i hi => (hE i (by omega)).2.2.2, fun h => (by cases h), by omega⟩
    by_cases h0 : l = 0
    · exact .inl h0
    · obtain ⟨b, off, spot⟩ := x
      have hspot : spot = none := by
        have := World.cell?_spot (hall 0 (by omega)).1
        simpa [Addr.add] using this
      subst hspot
      refine .inr ⟨b, off, rfl, fun i hi => ?_⟩
      obtain ⟨q0, q1, _, _⟩ := hall i (by omega)
      obtain ⟨e0, e1, ok, _⟩ := hE i (by omega)
      rw [add_plain] at q0 q1
      rw [← e0, ← e1]
      exact ⟨q0, by rw [Nat.add_assoc]; exact q1, ok⟩
end

end Go.Proofs.Qxb6605859aFmt
