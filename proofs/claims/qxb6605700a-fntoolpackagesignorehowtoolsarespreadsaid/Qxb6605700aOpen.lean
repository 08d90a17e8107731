import Derived.Test.Qxb6605700aLawBase
import Derived.SliceStrings
import Derived.Deep.Slices
import Derived.ChangeOld
namespace Go.Proofs.Qxb6605700a
open Go.ChangeShapes Go.WideShapes Go.ChangeAt Go.RowKit
set_option linter.unusedVariables false

theorem Try.own : ownKnob Try.prog.godebug = none := by kernel_rfl
theorem Try.laidOut : laidOutB Try.prog = true := by kernel_rfl

theorem row_of {α : Type} {enc : α → Value} {w : World} {a : Addr} {xs : List α} (h : ∀ i x, xs[i]? = some x → w.cell? (a.add i) = some (enc x)) : Row enc w (some a) xs := by
  cases xs with
  | nil => exact .inl rfl
  | cons x xs =>
    obtain ⟨b, off, spot⟩ := a
    have hspot : spot = none := by simpa [Addr.add] using World.cell?_spot (h 0 x rfl)
    subst hspot
    exact .inr ⟨b, off, rfl, fun i y hy => by rw [← Go.WideShapes.add_plain]; exact h i y hy⟩

section
variable {H : Type} {enc : TypeId × Value → H} {W : World}

theorem open_sr {fuel : Nat} {v : Value} {x : DataW H × List MemPlace} (h : DataW.trod enc Try.prog W 0 (fun _ => true) true fuel 34 [v] = some x) : ∃ r : SR, v = r.enc ∧ r.Ok W := by
  rcases open_strings Try.underlying34 Try.underlying9 (by kernel_rfl) h with ⟨hcs, _⟩ | ⟨a, l, c, ss, hcs, _, hl, hm, hz, _, hcell, hwz⟩
  · simp at hcs
    subst hcs
    exact ⟨⟨none, 0, 0, []⟩, rfl, ⟨rfl, .inl rfl, fun _ => ⟨rfl, rfl⟩, by simp, by simp⟩⟩
  · simp at hcs
    subst hcs
    simp at hz
    unfold maxLen at hm hwz
    refine ⟨⟨some a, l, c, ss.take l⟩, rfl, ⟨by simp; omega, row_of (fun i s hi => ?_), fun h => (by cases h), by show l ≤ _; omega, fun s hs => hwz s (List.mem_of_mem_take hs)⟩⟩
    have hi' := lt_of_get hi
    rw [List.length_take] at hi'
    rw [List.getElem?_take_of_lt (by omega)] at hi
    rw [hcell i (by omega)]
    simp [hi]

theorem open_ss {fuel : Nat} {v : Value} {x : DataW H × List MemPlace} (h : DataW.trod enc Try.prog W 0 (fun _ => true) true fuel 35 [v] = some x) : ∃ a n c rs, v = .slice a n c ∧ SS W a n c rs := by
  rcases Go.Deep.open_slice1 Try.underlying35 (by kernel_rfl) h with ⟨hcs, _⟩ | ⟨a, l, c, m, q, V, D, Pl, hcs, _, hl, hm, hmm, _, hall⟩
  · simp at hcs
    subst hcs
    exact ⟨none, 0, 0, [], rfl, ⟨rfl, .inl rfl, fun _ => ⟨rfl, rfl⟩, by simp, by simp⟩⟩
  · simp at hcs
    subst hcs
    simp at hmm
    subst hmm
    unfold maxLen at hm
    obtain ⟨R, hR⟩ := @Go.Deep.choose_lt SR ⟨⟨none, 0, 0, []⟩⟩ m (fun i r => V i = r.enc ∧ r.Ok W) (fun i hi => open_sr (hall i hi).2)
    refine ⟨some a, l, m, (List.range l).map R, rfl, ⟨by simp, row_of (fun i r hi => ?_), fun h => (by cases h), by omega, fun r hr => ?_⟩⟩
    · have hi' := lt_of_get hi
      rw [List.length_map, List.length_range] at hi'
      rw [List.getElem?_map, List.getElem?_range hi'] at hi
      simp at hi
      subst hi
      rw [(hall i (by omega)).1, (hR i (by omega)).1]
    · obtain ⟨i, hi, rfl⟩ := List.mem_map.1 hr
      exact (hR i (by have := List.mem_range.1 hi; omega)).2
end

end Go.Proofs.Qxb6605700a
