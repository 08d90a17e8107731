import Derived.Test.Qxb6605859aFmtLimit
import Derived.Test.Qxb6605859aFmtCards
import Derived.ChangeSlices
import Derived.ChangeSame
import Derived.ChangeMaps5
import Derived.JoinedOf
import Derived.Carry
import Derived.Stop.JoinedAt
import Derived.Stop.Texts
import Derived.Stop.JoinedTold
import Derived.SizedLaws
import Derived.SevenToldRow
import Derived.Deep.SlicePairs
namespace Go.Proofs.Qxb6605859aFmt
open Go.ChangeShapes Go.WideShapes Go.ChangeAt Go.RowKit Go.Kit
open Go.ChangeMaps (open_string shut_string)
open Go.Extern.Stop Go.Stop Go.Extern
set_option linter.unusedVariables false

theorem Tryf.own : ownKnob Tryf.prog.godebug = none := by kernel_rfl
theorem Tryf.laidOut : laidOutB Tryf.pinned.checked.prog = true := by kernel_rfl
theorem Tryf.cells5 : Tryf.prog.cellsOf 5 = 1 := by kernel_rfl
theorem Tryf.cells24 : Tryf.prog.cellsOf 24 = 1 := by kernel_rfl
theorem Tryf.stops : Tryf.pinned.checked.prog.stops = ["fmt.errorf"] := by kernel_rfl
theorem Tryf.stopKnobs : Tryf.pinned.checked.prog.stopKnobs = [] := by kernel_rfl
theorem Tryf.quiet (os : Os) : Stop.quiet Tryf.pinned.checked.prog os := by
  intro k hk
  rw [Tryf.stopKnobs] at hk
  cases hk

section
variable {H : Type} {enc : TypeId × Value → H} {W : World}

/-- A slice of integers that came in, out of its reading. -/
theorem open_row {t e : TypeId} {k : IntKind} {fuel : Nat} {v : Value} {x : DataW H × List MemPlace} (ht : Tryf.prog.underlying t = some (.slice e)) (he : Tryf.prog.underlying e = some (.int k)) (hc : Tryf.prog.cellsOf e = 1)
    (h : DataW.trod enc Tryf.prog W 0 (fun _ => true) true fuel t [v] = some x) :
    ∃ (a : Option Addr) (l c : Nat) (zs : List Int), v = .slice a l c ∧ zs.length = l ∧ Row k W 0 a zs ∧ (a = none → l = 0 ∧ c = 0) ∧ l ≤ 9223372036854775807 := by
  rcases open_ints ht he hc h with ⟨hcs, _⟩ | ⟨a, l, c, zs, hcs, _, hl, hm, hz, _, hcell, hwz⟩
  · simp at hcs
    subst hcs
    exact ⟨none, 0, 0, [], rfl, rfl, .inl rfl, fun _ => ⟨rfl, rfl⟩, by omega⟩
  · simp at hcs
    subst hcs
    simp at hz
    unfold maxLen at hm
    exact ⟨some a, l, c, zs.take l, rfl, by simp; omega, row_of_cells hcell l, fun h => (by cases h), by omega⟩

theorem open_in8 {v : Value} {d : DataW H} {p : List MemPlace} (h : DataW.Trod enc Tryf.prog W 0 (fun _ => true) true 22 v d p) (hv : ∃ a l c, v = .slice a l c) : ∃ a l c zs, v = .slice a l c ∧ In8 W a l c zs := by
  obtain ⟨fuel, hf⟩ := h
  obtain ⟨a, l, c, rfl⟩ := hv
  obtain ⟨a', l', c', zs, he, h1, h2, h3, h4⟩ := open_row (v := .slice a l c) Tryf.underlying22 Tryf.underlying5 Tryf.cells5 (by simpa [Value.cells] using hf)
  exact ⟨a', l', c', zs, he, ⟨h1, h2, h3, h4⟩⟩

theorem open_in16 {v : Value} {d : DataW H} {p : List MemPlace} (h : DataW.Trod enc Tryf.prog W 0 (fun _ => true) true 29 v d p) (hv : ∃ a l c, v = .slice a l c) :
    ∃ a l c zs, v = .slice a l c ∧ zs.length = l ∧ Row .u16 W 0 a zs ∧ (a = none → l = 0 ∧ c = 0) ∧ l ≤ 9223372036854775807 := by
  obtain ⟨fuel, hf⟩ := h
  obtain ⟨a, l, c, rfl⟩ := hv
  exact open_row (v := .slice a l c) Tryf.underlying29 Tryf.underlying24 Tryf.cells24 (by simpa [Value.cells] using hf)

theorem open_ents {v : Value} {d : DataW H} {p : List MemPlace} (h : DataW.Trod enc Tryf.prog W 0 (fun _ => true) true 23 v d p) (hv : ∃ a l c, v = .slice a l c) :
    ∃ a n c E, v = .slice a n c ∧ Ents W a n E ∧ (a = none → n = 0 ∧ c = 0) ∧ n ≤ 9223372036854775807 := by
  obtain ⟨fuel, hf⟩ := h
  obtain ⟨a, l, c, rfl⟩ := hv
  have hf' : DataW.trod enc Tryf.prog W 0 (fun _ => true) true fuel 23 [.slice a l c] = some (d, p) := by simpa [Value.cells] using hf
  rcases Go.Deep.open_slice_pairs Tryf.underlying23 Tryf.underlying31 (by kernel_rfl) (by kernel_rfl) (by kernel_rfl) (by kernel_rfl) (by kernel_rfl) hf' with ⟨hcs, _⟩ | ⟨x, len, cap, m, q, V0, V1, D0, D1, P0, P1, hcs, _, hl, hm, hmm, _, hall⟩
  · simp at hcs
    obtain ⟨rfl, rfl, rfl⟩ := hcs
    exact ⟨none, 0, 0, fun _ => ⟨none, 0, 0, [], none, 0, 0, []⟩, rfl, .inl rfl, fun _ => ⟨rfl, rfl⟩, by omega⟩
  · simp at hcs
    obtain ⟨rfl, rfl, rfl⟩ := hcs
    simp at hmm
    subst hmm
    unfold maxLen at hm
    have each : ∀ i, i < m → ∃ F : Ent, V0 i = .slice F.ca F.cl F.cc ∧ V1 i = .slice F.ea F.el F.ec ∧ F.Ok W := by
      intro i hi
      obtain ⟨_, _, g0, g1⟩ := hall i hi
      obtain ⟨a0, l0, c0, z0, e0, h1, h2, h3, h4⟩ := open_row Tryf.underlying22 Tryf.underlying5 Tryf.cells5 g0
      obtain ⟨a1, l1, c1, z1, e1, k1, k2, k3, k4⟩ := open_row Tryf.underlying29 Tryf.underlying24 Tryf.cells24 g1
      exact ⟨⟨a0, l0, c0, z0, a1, l1, c1, z1⟩, e0, e1, ⟨h1, h2, h3, k1, k2, k3, h4, k4⟩⟩
    obtain ⟨E, hE⟩ := @Go.Deep.choose_lt Ent ⟨⟨none, 0, 0, [], none, 0, 0, []⟩⟩ m (fun i F => V0 i = .slice F.ca F.cl F.cc ∧ V1 i = .slice F.ea F.el F.ec ∧ F.Ok W) each
    refine ⟨some x, l, m, E, rfl, ?_, fun h => (by cases h), by omega⟩
    by_cases h0 : l = 0
    · exact .inl h0
    · obtain ⟨b, off, spot⟩ := x
      have hspot : spot = none := by
        have := World.cell?_spot (hall 0 (by omega)).1
        simpa [Addr.add] using this
      subst hspot
      refine .inr ⟨b, off, rfl, fun i hi => ?_⟩
      obtain ⟨q0, q1, _, _⟩ := hall i (by omega)
      obtain ⟨e0, e1, ok⟩ := hE i (by omega)
      rw [add_plain] at q0 q1
      rw [← e0, ← e1]
      exact ⟨q0, by rw [Nat.add_assoc]; exact q1, ok⟩
end

end Go.Proofs.Qxb6605859aFmt
