import Derived.Test.Qxb6605700aGr5
import Derived.Test.Qxb6605700aBytes
namespace Go.Proofs.Qxb6605700a
open Go.ChangeShapes Go.WideShapes Go.ChangeAt Go.RowKit
set_option linter.unusedVariables false

theorem cnt_all {rs : List SR} : ∀ k, cnt rs k ≤ cnt rs rs.length := by
  have step : ∀ k, cnt rs (k + 1) = cnt rs k + (match rs[k]? with | some r => r.l | none => 0) := fun k => rfl
  have up : ∀ k d, cnt rs k ≤ cnt rs (k + d) := fun k d => by
    induction d with
    | zero => exact Nat.le_refl _
    | succ d ih => rw [← Nat.add_assoc, step]; omega
  have flat : ∀ d, cnt rs (rs.length + d) = cnt rs rs.length := fun d => by
    induction d with
    | zero => rfl
    | succ d ih =>
      rw [← Nat.add_assoc, step, List.getElem?_eq_none (by omega), ih]
      rfl
  intro k
  by_cases h : k ≤ rs.length
  · obtain ⟨d, hd⟩ := Nat.exists_eq_add_of_le h
    rw [hd]; exact up k d
  · obtain ⟨d, hd⟩ := Nat.exists_eq_add_of_le (show rs.length ≤ k by omega)
    rw [hd, flat]; exact Nat.le_refl _

theorem cnt_alike {rs rs' : List SR} {w w' : World} (ha : Alike rs rs') (h : ∀ r ∈ rs, r.Ok w) (h' : ∀ r ∈ rs', r.Ok w') : ∀ k, cnt rs' k = cnt rs k := by
  have hr : ∀ k, rowAt rs' k = rowAt rs k := fun k => by
    have e := congrArg (fun l : List (List ByteArray) => l[k]?) ha
    simp only [List.getElem?_map] at e
    unfold rowAt
    cases h1 : rs'[k]? <;> cases h2 : rs[k]? <;> simp_all
  intro k
  induction k with
  | zero => rfl
  | succ k ih => rw [cnt_rowAt h' k, cnt_rowAt h k, ih, hr k]

theorem row_le {rs : List SR} {r : SR} (h : r ∈ rs) : r.l ≤ cnt rs rs.length := by
  obtain ⟨k, hk, rfl⟩ := List.getElem_of_mem h
  have := cnt_succ (List.getElem?_eq_getElem hk)
  have := cnt_all (rs := rs) (k + 1)
  omega

theorem pkgsOf {w : World} {n gG gP : Nat} {pa oa : Option Addr} {f : Nat → Bool} (h : GOk w n gG gP pa oa f) (hn : n ≤ 65536) :
    Calls Try.prog 15 #[.pointer (some ⟨gG, 0, none⟩)] w fun e w' => ∃ ao c, e = .returned (.slice ao ((List.range n).filter f).length c) ∧ Below w.heap.size w w' ∧ Row (PP gP) w' ao ((List.range n).filter f) := by
  obtain ⟨⟨fa, nf, cf, fs, h1, h2, h3, h4, h5, h6, h7, h8⟩, h9, h10, h11⟩ := h
  exact toolPackages gP gG nf cf n n fa pa fs f w h1 h2 h9 h3 h4 h5 h6 h7 h10 (by omega) h8

/-- The owners' numbers. -/
structure Is (n : Nat) (f : Nat → Bool) (is : List Nat) : Prop where
  eq : is = (List.range n).filter f
theorem Is.sorted {n : Nat} {f : Nat → Bool} {is : List Nat} (h : Is n f is) : is.Pairwise (· < ·) := by
  rw [h.eq]; exact List.Pairwise.filter _ List.pairwise_lt_range
theorem Is.lt {n : Nat} {f : Nat → Bool} {is : List Nat} (h : Is n f is) : ∀ i ∈ is, i < n := by
  rw [h.eq]; intro i hi; exact List.mem_range.1 (List.mem_filter.1 hi).1
theorem Is.yes {n : Nat} {f : Nat → Bool} {is : List Nat} (h : Is n f is) : ∀ i ∈ is, f i = true := by
  rw [h.eq]; intro i hi; exact (List.mem_filter.1 hi).2
theorem Is.len {n : Nat} {f : Nat → Bool} {is : List Nat} (h : Is n f is) : is.length ≤ n := by
  rw [h.eq]; exact Nat.le_trans (List.length_filter_le _ _) (by simp)
theorem Is.count {n : Nat} {f : Nat → Bool} {is : List Nat} (h : Is n f is) : ((List.range n).map f).countP id = is.length := by
  rw [h.eq, List.countP_map, List.countP_eq_length_filter]
  rfl

def LawPost (w : World) (e : Ending) (w' : World) : Prop := e = .returned (.bool true) ∧ Below w.heap.size w w'

end Go.Proofs.Qxb6605700a
