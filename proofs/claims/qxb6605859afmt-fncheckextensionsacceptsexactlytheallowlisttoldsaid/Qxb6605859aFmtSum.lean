import Derived.Test.Qxb6605859aFmtLimit
namespace Go.Proofs.Qxb6605859aFmt
open Go.ChangeShapes Go.WideShapes Go.ChangeAt Go.RowKit
open Go.Extern.Stop Go.Stop Go.Extern
set_option linter.unusedVariables false

/-! ### zzEntriesBytes as a plain function -/
def ebLoop (E : Nat → Ent) : Nat → Nat → Int → Int
  | 0, _, q => q
  | m + 1, k, q =>
    if 1048576 < ((E k).cl : Int) ∨ 1048576 < ((E k).el : Int) then 2097152
    else if 1048576 < q + (((E k).cl : Int) + 2 * ((E k).el : Int)) then 2097152
    else ebLoop E m (k + 1) (q + (((E k).cl : Int) + 2 * ((E k).el : Int)))
def ebSum (n : Nat) (E : Nat → Ent) : Int := if 32768 < n then 2097152 else ebLoop E n 0 (48 * (n : Int))

theorem ebLoop_sized (E : Nat → Ent) : ∀ (m k : Nat) (q : Int), 0 ≤ q → q ≤ 2621440 →
    ebLoop E m k q = 2097152 ∨ (0 ≤ ebLoop E m k q ∧ ebLoop E m k q ≤ 2621440 ∧ ∀ i, k ≤ i → i < k + m → (E i).cl ≤ 1048576 ∧ (E i).el ≤ 1048576)
  | 0, k, q, h0, h1 => .inr ⟨h0, h1, fun i hi hj => by omega⟩
  | m + 1, k, q, h0, h1 => by
    unfold ebLoop
    by_cases hb : 1048576 < ((E k).cl : Int) ∨ 1048576 < ((E k).el : Int)
    · rw [if_pos hb]; exact .inl rfl
    · rw [if_neg hb]
      by_cases hs : 1048576 < q + (((E k).cl : Int) + 2 * ((E k).el : Int))
      · rw [if_pos hs]; exact .inl rfl
      · rw [if_neg hs]
        rcases ebLoop_sized E m (k + 1) _ (show 0 ≤ q + (((E k).cl : Int) + 2 * ((E k).el : Int)) by omega) (by omega) with h | ⟨h2, h3, h4⟩
        · exact .inl h
        · refine .inr ⟨h2, h3, fun i hi hj => ?_⟩
          by_cases e : i = k
          · subst e; omega
          · exact h4 i (by omega) (by omega)

theorem ebSum_sized (n : Nat) (E : Nat → Ent) : Sized n E (ebSum n E) := by
  unfold ebSum Sized
  by_cases h : 32768 < n
  · rw [if_pos h]; exact .inl rfl
  · rw [if_neg h]
    rcases ebLoop_sized E n 0 (48 * (n : Int)) (by omega) (by omega) with h1 | ⟨h1, h2, h3⟩
    · exact .inl h1
    · exact .inr ⟨h1, h2, by omega, fun i hi => h3 i (by omega) (by omega)⟩

theorem eb_big (E : Nat → Ent) {n k : Nat} {q z : Int} (hk : k < n) (h : ebLoop E (n - k) k q = z) (hb : 1048576 < ((E k).cl : Int) ∨ 1048576 < ((E k).el : Int)) : z = 2097152 := by
  obtain ⟨m, hm⟩ : ∃ m, n - k = m + 1 := ⟨n - k - 1, by omega⟩
  rw [hm] at h
  unfold ebLoop at h
  rw [if_pos hb] at h
  exact h.symm
theorem eb_over (E : Nat → Ent) {n k : Nat} {q z : Int} (hk : k < n) (h : ebLoop E (n - k) k q = z) (hb : ((E k).cl : Int) ≤ 1048576 ∧ ((E k).el : Int) ≤ 1048576) (hs : 1048576 < q + (((E k).cl : Int) + 2 * ((E k).el : Int))) : z = 2097152 := by
  obtain ⟨m, hm⟩ : ∃ m, n - k = m + 1 := ⟨n - k - 1, by omega⟩
  rw [hm] at h
  unfold ebLoop at h
  rw [if_neg (by omega), if_pos hs] at h
  exact h.symm
theorem eb_next (E : Nat → Ent) {n k : Nat} {q z : Int} (hk : k < n) (h : ebLoop E (n - k) k q = z) (hb : ((E k).cl : Int) ≤ 1048576 ∧ ((E k).el : Int) ≤ 1048576) (hs : q + (((E k).cl : Int) + 2 * ((E k).el : Int)) ≤ 1048576) :
    ebLoop E (n - (k + 1)) (k + 1) (q + (((E k).cl : Int) + 2 * ((E k).el : Int))) = z := by
  obtain ⟨m, hm⟩ : ∃ m, n - k = m + 1 := ⟨n - k - 1, by omega⟩
  rw [hm] at h
  unfold ebLoop at h
  rw [if_neg (by omega), if_neg (by omega)] at h
  rw [show n - (k + 1) = m from by omega]
  exact h
theorem ret_int {k : IntKind} {a b : Int} (h : a = b) : Ending.returned (.int k a) = .returned (.int k b) := by rw [h]

set_option maxRecDepth 100000 in
set_option maxHeartbeats 2000000 in
theorem entriesSum (ao : Option Addr) (n cn : Nat) (E : Nat → Ent) (w : World) (hE : Ents w ao n E) (hn : n ≤ 9223372036854775807) :
    Calls Tryf.prog 6 #[.slice ao n cn] w fun e w' => e = .returned (.int .i64 (ebSum n E)) ∧ w' = w := by
  have HE := hide hE
  clear hE
  obtain ⟨z, hz⟩ : ∃ z, z = ebSum n E := ⟨_, rfl⟩
  rw [← hz]
  by_cases hb : n ≤ 32768
  · have hz' : ebLoop E (n - 0) 0 (48 * (n : Int)) = z := by rw [hz]; unfold ebSum; rw [if_neg (by omega)]; rfl
    have HZ := hide hz'
    clear hz hz'
    go_enter Tryf.func6, Tryf.ntmps6
    go_wp2
    go_loop [3, 4] (fun s i => ∃ (q : Int) (k : Nat), k ≤ n ∧ s = .int .i64 q ∧ 0 ≤ q ∧ q ≤ 2621440 ∧ i = .int .i64 k ∧ Hid (ebLoop E (n - k) k q = z)) (fun _ i => n - (intOf i).toNat)
    case atStart => exact ⟨_, 0, Nat.zero_le _, rfl, by omega, by omega, rfl, HZ⟩
    case round =>
      obtain ⟨q, k, hk, rfl, hq0, hq1, rfl, hall⟩ := hrel
      by_cases hlt : k < n
      · obtain ⟨b, off, rfl, h0, h1, hok⟩ := HE.out.at hlt
        have hlt' : (k : Int) < (n : Int) := by omega
        by_cases hbig : 1048576 < ((E k).cl : Int) ∨ 1048576 < ((E k).el : Int)
        · have he := eb_big E hlt hall.out hbig
          have HH := hide he
          clear he
          go_wp2
          all_goals (go_ret; exact ⟨ret_int HH.out.symm, rfl⟩)
        · have hsm : ((E k).cl : Int) ≤ 1048576 ∧ ((E k).el : Int) ≤ 1048576 := by omega
          clear hbig
          by_cases hov : 1048576 < q + (((E k).cl : Int) + 2 * ((E k).el : Int))
          · have HH := hide (eb_over E hlt hall.out hsm hov)
            go_wp2
            go_ret
            exact ⟨ret_int HH.out.symm, rfl⟩
          · have HH := hide (eb_next E hlt hall.out hsm (by omega))
            go_wp2
            go_round
            case rel => exact ⟨_, k + 1, by omega, rfl, by omega, by omega, by go_num, HH⟩
            case measure => simp [intOf]; omega
      · have hq : q = z := by
          have := hall.out
          rw [show n - k = 0 from by omega] at this
          exact this
        have HQ := hide hq
        clear hq hall
        go_wp2
        go_ret
        exact ⟨ret_int HQ.out, rfl⟩
  · have hz' : z = 2097152 := by rw [hz]; unfold ebSum; rw [if_pos (by omega)]
    have HZ := hide hz'
    clear hz hz'
    go_enter Tryf.func6, Tryf.ntmps6
    go_wp2
    go_ret
    exact ⟨ret_int HZ.out.symm, rfl⟩

end Go.Proofs.Qxb6605859aFmt
