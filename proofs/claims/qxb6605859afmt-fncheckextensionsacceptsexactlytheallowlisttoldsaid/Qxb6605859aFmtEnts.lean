import Derived.Test.Qxb6605859aFmtBase
namespace Go.Proofs.Qxb6605859aFmt
open Go.ChangeShapes Go.WideShapes Go.ChangeAt Go.RowKit
set_option linter.unusedVariables false

/-- One entry: the two slices of its cells, and what they hold. -/
structure Ent where
  ca : Option Addr
  cl : Nat
  cc : Nat
  cz : List Int
  ea : Option Addr
  el : Nat
  ec : Nat
  ez : List Int

structure Ent.Ok (E : Ent) (w : World) : Prop where
  clen : E.cz.length = E.cl
  crow : Row .u8 w 0 E.ca E.cz
  cnil : E.ca = none → E.cl = 0 ∧ E.cc = 0
  elen : E.ez.length = E.el
  erow : Row .u16 w 0 E.ea E.ez
  enil : E.ea = none → E.el = 0 ∧ E.ec = 0
  cmax : E.cl ≤ 9223372036854775807
  emax : E.el ≤ 9223372036854775807

/-- The slice at 'ao' leads to n entries (two cells each): E 0, E 1, .. -/
def Ents (w : World) (ao : Option Addr) (n : Nat) (E : Nat → Ent) : Prop :=
  n = 0 ∨ ∃ b off, ao = some ⟨b, off, none⟩ ∧ ∀ i, i < n → w.cell? ⟨b, off + i * 2, none⟩ = some (.slice (E i).ca (E i).cl (E i).cc) ∧ w.cell? ⟨b, off + i * 2 + 1, none⟩ = some (.slice (E i).ea (E i).el (E i).ec) ∧ (E i).Ok w

theorem Ent.Ok.later {E : Ent} {w w' : World} (h : E.Ok w) (hb : Below w.heap.size w w') : E.Ok w' :=
  ⟨h.clen, h.crow.later hb, h.cnil, h.elen, h.erow.later hb, h.enil, h.cmax, h.emax⟩

theorem Ents.later {w w' : World} {ao : Option Addr} {n : Nat} {E : Nat → Ent} (h : Ents w ao n E) (hb : Below w.heap.size w w') : Ents w' ao n E := by
  rcases h with h | ⟨b, off, rfl, hc⟩
  · exact .inl h
  · refine .inr ⟨b, off, rfl, fun i hi => ?_⟩
    obtain ⟨h0, h1, h2⟩ := hc i hi
    refine ⟨?_, ?_, h2.later hb⟩
    · rw [hb.cell (p := ⟨b, off + i * 2, none⟩) (lt_of_cell h0)]; exact h0
    · rw [hb.cell (p := ⟨b, off + i * 2 + 1, none⟩) (lt_of_cell h1)]; exact h1

theorem Ents.at {w : World} {ao : Option Addr} {n : Nat} {E : Nat → Ent} (h : Ents w ao n E) {k : Nat} (hk : k < n) :
    ∃ b off, ao = some ⟨b, off, none⟩ ∧ w.cell? ⟨b, off + k * 2, none⟩ = some (.slice (E k).ca (E k).cl (E k).cc) ∧ w.cell? ⟨b, off + k * 2 + 1, none⟩ = some (.slice (E k).ea (E k).el (E k).ec) ∧ (E k).Ok w := by
  rcases h with h | ⟨b, off, rfl, hc⟩
  · omega
  · exact ⟨b, off, rfl, hc k hk⟩

/-- It returns a bool. -/
def RetBool (e : Ending) : Prop := ∃ b : Bool, e = .returned (.bool b)

set_option maxRecDepth 100000 in
set_option maxHeartbeats 2000000 in
theorem bytes5_any (a0 a3 a4 ao : Option Addr) (l0 c0 n cn l3 c3 l4 c4 : Nat) (t s : Int) (r : ByteArray) (E : Nat → Ent) (w : World) (hE : Ents w ao n E) (hn : n ≤ 9223372036854775807) :
    Calls Tryf.prog 5 #[.slice a0 l0 c0, .slice ao n cn, .int .u16 t, .slice a3 l3 c3, .slice a4 l4 c4, .int .u16 s, .string r] w fun e w' => RetBool e ∧ w' = w := by
  have HE := hide hE
  clear hE
  go_enter Tryf.func5, Tryf.ntmps5
  go_wp2
  all_goals try (go_ret; exact ⟨⟨_, rfl⟩, rfl⟩)
  go_loop [15, 16] (fun z i => ∃ (q : Int) (k : Nat), k ≤ n ∧ z = .int .i64 q ∧ i = .int .i64 k) (fun _ i => n - (intOf i).toNat)
  case atStart => exact ⟨_, 0, Nat.zero_le _, rfl, rfl⟩
  case round =>
    obtain ⟨q, k, hk, rfl, rfl⟩ := hrel
    by_cases hlt : k < n
    · obtain ⟨b, off, rfl, h0, h1, hok⟩ := HE.out.at hlt
      have hlt' : (k : Int) < (n : Int) := by omega
      go_wp2
      all_goals first | (go_ret; exact ⟨⟨_, rfl⟩, rfl⟩) | skip
      go_round
      case rel => exact ⟨_, k + 1, by omega, rfl, by go_num⟩
      case measure => simp [intOf]; omega
    · go_wp2
      all_goals (go_ret; exact ⟨⟨_, rfl⟩, rfl⟩)

set_option maxRecDepth 100000 in
set_option maxHeartbeats 2000000 in
theorem bytes12_any (a0 a3 a4 ao aw : Option Addr) (l0 c0 n cn l3 c3 l4 c4 lw cw : Nat) (t : Int) (r : ByteArray) (E : Nat → Ent) (w : World) (hE : Ents w ao n E) (hn : n ≤ 9223372036854775807) :
    Calls Tryf.prog 12 #[.slice a0 l0 c0, .slice ao n cn, .int .u16 t, .slice a3 l3 c3, .slice a4 l4 c4, .slice aw lw cw, .string r] w fun e w' => RetBool e ∧ w' = w := by
  have HE := hide hE
  clear hE
  go_enter Tryf.func12, Tryf.ntmps12
  go_wp2
  all_goals try (go_ret; exact ⟨⟨_, rfl⟩, rfl⟩)
  go_loop [15, 16] (fun z i => ∃ (q : Int) (k : Nat), k ≤ n ∧ z = .int .i64 q ∧ i = .int .i64 k) (fun _ i => n - (intOf i).toNat)
  case atStart => exact ⟨_, 0, Nat.zero_le _, rfl, rfl⟩
  case round =>
    obtain ⟨q, k, hk, rfl, rfl⟩ := hrel
    by_cases hlt : k < n
    · obtain ⟨b, off, rfl, h0, h1, hok⟩ := HE.out.at hlt
      have hlt' : (k : Int) < (n : Int) := by omega
      go_wp2
      all_goals first | (go_ret; exact ⟨⟨_, rfl⟩, rfl⟩) | skip
      go_round
      case rel => exact ⟨_, k + 1, by omega, rfl, by go_num⟩
      case measure => simp [intOf]; omega
    · go_wp2
      all_goals (go_ret; exact ⟨⟨_, rfl⟩, rfl⟩)


/-! ### zzEntriesBytes -/
/-- What its answer says of the entries. -/
def Sized (n : Nat) (E : Nat → Ent) (z : Int) : Prop := z = 2097152 ∨ (0 ≤ z ∧ z ≤ 2621440 ∧ n ≤ 32768 ∧ ∀ i, i < n → (E i).cl ≤ 1048576 ∧ (E i).el ≤ 1048576)
def Smalls (k : Nat) (E : Nat → Ent) : Prop := ∀ i, i < k → (E i).cl ≤ 1048576 ∧ (E i).el ≤ 1048576
set_option maxRecDepth 100000 in
set_option maxHeartbeats 2000000 in
theorem entriesBytes (ao : Option Addr) (n cn : Nat) (E : Nat → Ent) (w : World) (hE : Ents w ao n E) (hn : n ≤ 9223372036854775807) :
    Calls Tryf.prog 6 #[.slice ao n cn] w fun e w' => (∃ z : Int, e = .returned (.int .i64 z) ∧ Sized n E z) ∧ w' = w := by
  have HE := hide hE
  clear hE
  by_cases hb : n ≤ 32768
  · go_enter Tryf.func6, Tryf.ntmps6
    go_wp2
    go_loop [3, 4] (fun z i => ∃ (q : Int) (k : Nat), k ≤ n ∧ z = .int .i64 q ∧ 0 ≤ q ∧ q ≤ 2621440 ∧ i = .int .i64 k ∧ Smalls k E) (fun _ i => n - (intOf i).toNat)
    case atStart => exact ⟨_, 0, Nat.zero_le _, rfl, by omega, by omega, rfl, fun i hi => by omega⟩
    case round =>
      obtain ⟨q, k, hk, rfl, hq0, hq1, rfl, hall⟩ := hrel
      by_cases hlt : k < n
      · obtain ⟨b, off, rfl, h0, h1, hok⟩ := HE.out.at hlt
        have hlt' : (k : Int) < (n : Int) := by omega
        go_wp2
        all_goals first | (go_ret; exact ⟨⟨_, rfl, .inl rfl⟩, rfl⟩) | skip
        have hs : ((E k).cl : Int) ≤ 1048576 ∧ ((E k).el : Int) ≤ 1048576 := by assumption
        have ht : q + (((E k).cl : Int) + 2 * ((E k).el : Int)) ≤ 1048576 := by assumption
        have hnew : Smalls (k + 1) E := by
          intro i hi
          by_cases e : i = k
          · subst e; exact ⟨by omega, by omega⟩
          · exact hall i (by omega)
        go_round
        case rel => exact ⟨_, k + 1, by omega, rfl, by omega, by omega, by go_num, hnew⟩
        case measure => simp [intOf]; omega
      · go_wp2
        go_ret
        exact ⟨⟨q, rfl, .inr ⟨hq0, hq1, hb, fun i hi => hall i (by omega)⟩⟩, rfl⟩
  · go_enter Tryf.func6, Tryf.ntmps6
    go_wp2
    go_ret
    exact ⟨⟨_, rfl, .inl rfl⟩, rfl⟩

end Go.Proofs.Qxb6605859aFmt
