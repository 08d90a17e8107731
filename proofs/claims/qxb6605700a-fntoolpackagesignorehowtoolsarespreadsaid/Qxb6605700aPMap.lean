import Derived.Test.Qxb6605700aClone
import Derived.LaidEqlPtr
import Derived.Maps.OwnOps
import Derived.Maps.Views
namespace Go.Proofs.Qxb6605700a
open Go.ChangeShapes Go.WideShapes Go.ChangeAt Go.RowKit
set_option linter.unusedVariables false

/-! ### map[*Package]bool -/
/-- The pointer to package i of the row at block g; or nil. -/
def K (g : Nat) : Option Nat → Value
  | none => .pointer none
  | some i => .pointer (some ⟨g, i * 7, none⟩)
theorem K_inj {g : Nat} {p q : Option Nat} (h : K g p = K g q) : p = q := by
  cases p <;> cases q <;> simp [K] at h ⊢
  omega

theorem info55 : (Try.prog.info? 55).map (fun i => i.size) = some 7 := by kernel_rfl

theorem equal_K (w : World) (g : Nat) (p q : Option Nat) : (Op.equal 28 (K g p) (K g q)).run Try.prog w = .ok (decide (p = q)) w := by
  obtain ⟨i, hi, hs⟩ : ∃ i, Try.prog.info? 55 = some i ∧ i.size = 7 := by
    have h := info55
    cases hx : Try.prog.info? 55 with
    | none => simp [hx] at h
    | some i => simp [hx] at h; exact ⟨i, rfl, h⟩
  have h : ∀ d : Nat, (Op.equalIn (d + 1) 28 (K g p) (K g q)).run Try.prog w = .ok (decide (p = q)) w := fun d => by
    cases p <;> cases q <;> simp [K, Op.equalIn, run_underlying Try.underlying28, sizeOf, typeInfo, hi, hs, sameAddr]
    rename_i a b
    by_cases e : a = b
    · subst e; simp
    · simp [e]; omega
  exact h 9999

theorem isKey_none (g : Nat) (p : Option Nat) (e : MapEntry) : Instr.sameNow (.pointer 55) (K g p) e.key = none := by
  cases p <;> simp [Instr.sameNow]

theorem findAsking_spec (w : World) (g : Nat) (p : Option Nat) : ∀ (l : List MapEntry) (i : Nat), (∀ e ∈ l, ∃ q, e.key = K g q) →
    ((Instr.findAsking 28 (K g p) l i).run Try.prog w = .ok none w ∧ ∀ e ∈ l, e.key ≠ K g p) ∨ ∃ j e, (Instr.findAsking 28 (K g p) l i).run Try.prog w = .ok (some (i + j, e.val)) w ∧ l[j]? = some e ∧ e.key = K g p
  | [], i, _ => .inl ⟨rfl, by simp⟩
  | e :: es, i, h => by
    obtain ⟨q, hq⟩ := h e (.head _)
    by_cases hpq : p = q
    · refine .inr ⟨0, e, ?_, rfl, by rw [hq, hpq]⟩
      simp [Instr.findAsking, hq, equal_K, hpq, Result.andThen]
    · have hne : e.key ≠ K g p := fun e1 => hpq (K_inj (hq ▸ e1).symm)
      have hstep : (Instr.findAsking 28 (K g p) (e :: es) i).run Try.prog w = (Instr.findAsking 28 (K g p) es (i + 1)).run Try.prog w := by
        rw [Instr.findAsking]
        simp [hq, equal_K, hpq, Result.andThen]
      rw [hstep]
      rcases findAsking_spec w g p es (i + 1) (fun x hx => h x (.tail _ hx)) with ⟨h1, h2⟩ | ⟨j, e', h1, h2, h3⟩
      · refine .inl ⟨h1, fun x hx => ?_⟩
        cases hx with
        | head => exact hne
        | tail _ hx => exact h2 x hx
      · exact .inr ⟨j + 1, e', by rw [h1, show i + 1 + j = i + (j + 1) by omega], by simpa using h2, h3⟩

theorem findKey_spec (w : World) (g : Nat) (p : Option Nat) (l : List MapEntry) (h : ∀ e ∈ l, ∃ q, e.key = K g q) :
    ((Instr.findKey 28 (K g p) l).run Try.prog w = .ok none w ∧ ∀ e ∈ l, e.key ≠ K g p) ∨ ∃ j e, (Instr.findKey 28 (K g p) l).run Try.prog w = .ok (some (j, e.val)) w ∧ l[j]? = some e ∧ e.key = K g p := by
  cases l with
  | nil => exact .inl ⟨by simp [Instr.findKey, run_underlying Try.underlying28, Result.andThen, Instr.findNow], by simp⟩
  | cons e es =>
    have hn : Instr.findNow (.pointer 55) (K g p) (e :: es) 0 = none := by simp [Instr.findNow, isKey_none]
    have hs : (Instr.findKey 28 (K g p) (e :: es)).run Try.prog w = (Instr.findAsking 28 (K g p) (e :: es) 0).run Try.prog w := by
      simp [Instr.findKey, run_underlying Try.underlying28, Result.andThen, hn]
    rw [hs]
    rcases findAsking_spec w g p (e :: es) 0 h with h1 | ⟨j, e', h1, h2, h3⟩
    · exact .inl h1
    · exact .inr ⟨j, e', by rw [h1, Nat.zero_add], h2, h3⟩

theorem checkKey_K (w : World) (g : Nat) (p : Option Nat) (b : Bool) : (Instr.checkKey b 10000 28 (K g p)).run Try.prog w = .ok () w := by
  have h : ∀ n, (Instr.checkKey b (n + 1) 28 (K g p)).run Try.prog w = .ok () w := fun n => by
    unfold Instr.checkKey
    cases p <;> simp [K, run_underlying Try.underlying28, Result.andThen]
  exact h 9999

/-- Block m is a map whose keys are packages of block g and whose elements are true; S: which keys it holds. -/
def PMap (w : World) (g m : Nat) (S : Option Nat → Prop) : Prop :=
  ∃ es clock, w.heap[m]? = some (.map es clock) ∧ (∀ e ∈ es.toList, (∃ q, e.key = K g q) ∧ e.val = .bool true) ∧ ∀ p, S p ↔ ∃ e ∈ es.toList, e.key = K g p
theorem PMap.lt {w : World} {g m : Nat} {S : Option Nat → Prop} (h : PMap w g m S) : m < w.heap.size := by
  obtain ⟨es, c, hb, _⟩ := h
  exact lt_of_block hb
theorem PMap.later {w w' : World} {g m : Nat} {S : Option Nat → Prop} (h : PMap w g m S) (hb : Below w.heap.size w w') : PMap w' g m S := by
  have hl := h.lt
  obtain ⟨es, c, hm, h1, h2⟩ := h
  exact ⟨es, c, (hb.block m hl).trans hm, h1, h2⟩

theorem modify_same {es : Array MapEntry} {j : Nat} {e : MapEntry} {f : MapEntry → MapEntry} (h : es[j]? = some e) (hf : f e = e) : es.modify j f = es := by
  apply Array.ext_getElem?
  intro i
  rw [Array.getElem?_modify]
  split
  · rename_i h1
    subst h1
    rw [h]
    simp [hf]
  · rfl

theorem PMap.update {w : World} {g m : Nat} {S : Option Nat → Prop} (h : PMap w g m S) (p : Option Nat) :
    ∃ w', (Instr.mapUpdate 60 (.map (some m)) (K g p) (.bool true)).run Try.prog w = .ok () w' ∧ PMap w' g m (fun q => S q ∨ q = p) ∧ w.grownBy w' (some m) := by
  obtain ⟨es, c, hb, h1, h2⟩ := h
  rcases findKey_spec w g p es.toList (fun e he => (h1 e he).1) with ⟨hf, hno⟩ | ⟨j, e, hf, hj, hk⟩
  · refine ⟨{ w with heap := w.heap.setIfInBounds m (Obj.map (es.push { key := K g p, val := Value.bool true, born := c }) (c + 1)) }, by simp [Instr.mapUpdate, run_underlying Try.underlying60, MapKept.run_getObj_map hb, checkKey_K, hf, MapKept.run_setObj_map _ hb, Result.andThen], ⟨_, _, (MapKept.heap_set hb).1, ?_, ?_⟩, ⟨rfl, rfl, rfl, by simp, fun i _ hi => (MapKept.heap_set hb).2 i (fun e => hi (by rw [e]))⟩⟩
    · intro e he
      simp at he
      rcases he with he | rfl
      · exact h1 e (by simpa using he)
      · exact ⟨⟨p, rfl⟩, rfl⟩
    · intro q
      show (S q ∨ q = p) ↔ _
      rw [h2 q]
      simp
      constructor
      · rintro (⟨e, he, hk⟩ | rfl)
        · exact .inl ⟨e, he, hk⟩
        · exact .inr rfl
      · rintro (⟨e, he, hk⟩ | hk)
        · exact .inl ⟨e, he, hk⟩
        · exact .inr (K_inj hk).symm
  · have hj' : es[j]? = some e := by simpa using hj
    have hmem : e ∈ es.toList := List.mem_of_getElem? hj
    have hbits : ∀ q, Instr.sameBits 10000 (K g q) (K g q) = true := fun q => by cases q <;> simp [K, Instr.sameBits]
    have hmod : es.modify j (fun e => { e with key := K g p, val := .bool true }) = es := modify_same hj' (by cases e; simp at hk ⊢; exact ⟨hk.symm, (h1 _ hmem).2.symm⟩)
    refine ⟨{ w with heap := w.heap.setIfInBounds m (Obj.map es c) }, by simp [Instr.mapUpdate, run_underlying Try.underlying60, MapKept.run_getObj_map hb, checkKey_K, hf, hj', hk, Instr.keyThatStays, hbits, hmod, MapKept.run_setObj_map _ hb, Result.andThen], ⟨es, c, (MapKept.heap_set hb).1, h1, ?_⟩, ⟨rfl, rfl, rfl, by simp, fun i _ hi => (MapKept.heap_set hb).2 i (fun e => hi (by rw [e]))⟩⟩
    intro q
    rw [← h2 q]
    constructor
    · rintro (h | rfl)
      · exact h
      · exact (h2 q).2 ⟨e, hmem, hk⟩
    · exact .inl

theorem PMap.lookup {w : World} {g m : Nat} {S : Option Nat → Prop} (h : PMap w g m S) (p : Option Nat) :
    ∃ b : Bool, (Instr.lookup 60 (.map (some m)) (K g p) false).run Try.prog w = .ok (.bool b) w ∧ (b = true ↔ S p) := by
  obtain ⟨es, c, hb, h1, h2⟩ := h
  rcases findKey_spec w g p es.toList (fun e he => (h1 e he).1) with ⟨hf, hno⟩ | ⟨j, e, hf, hj, hk⟩
  · refine ⟨false, by simp [Instr.lookup, run_underlying Try.underlying60, MapKept.run_getObj_map hb, checkKey_K, hf, Result.andThen], ?_⟩
    rw [h2 p]
    constructor
    · intro h; cases h
    · rintro ⟨e, he, hk⟩; exact absurd hk (hno e he)
  · have hmem : e ∈ es.toList := List.mem_of_getElem? hj
    refine ⟨true, by simp [Instr.lookup, run_underlying Try.underlying60, MapKept.run_getObj_map hb, checkKey_K, hf, (h1 e hmem).2, Result.andThen], ?_⟩
    rw [h2 p]
    exact ⟨fun _ => ⟨e, hmem, hk⟩, fun _ => rfl⟩

theorem wpList_mapUpdate_K (w : World) {ops : Array Oper} {rest : List Oper} {o : Oper} {a : Act} {Q : Exit → Act → World → Prop}
    (hg : o.guard = none) (m x v : Operand) (hop : o.op = Op.mapUpdate 60 m x v) (g b : Nat) (S : Option Nat → Prop)
    (hm : a.eval m = .map (some b)) (h : PMap w g b S) (p : Option Nat) (hx : a.eval x = K g p) (hv : a.eval v = .bool true)
    (hK : ∀ w', PMap w' g b (fun q => S q ∨ q = p) → w.grownBy w' (some b) → wpList Try.prog ops Q rest (a.put o.dst undef) w') :
    wpList Try.prog ops Q (o :: rest) a w := by
  refine wpList_plain hg fun K' hK' => ?_
  obtain ⟨w', hrun, r1, r2⟩ := h.update p
  unfold Oper.wp
  simp [execOp, hop, hm, hx, hv, hrun, Result.andThen]
  exact hK' _ _ (hK w' r1 r2)

theorem PMap.made (w : World) (g : Nat) : PMap (w.alloc (.map #[] 0)) g w.heap.size (fun _ => False) :=
  ⟨#[], 0, (MapKept.heap_alloc w _).1, by simp, by simp⟩

end Go.Proofs.Qxb6605700a
