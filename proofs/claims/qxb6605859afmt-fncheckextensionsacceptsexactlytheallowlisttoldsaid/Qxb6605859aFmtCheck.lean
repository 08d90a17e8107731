import Derived.Test.Qxb6605859aFmtAuth
namespace Go.Proofs.Qxb6605859aFmt
open Go.ChangeShapes Go.WideShapes Go.ChangeAt Go.RowKit
open Go.Extern.Stop Go.Stop Go.Extern
set_option linter.unusedVariables false

/-- Every extension type of the first k entries is let by. -/
def AllOk (ok : Int → Bool) (E : Nat → Ent) (k : Nat) : Prop := ∀ i, i < k → ∀ t ∈ (E i).ez, ok t = true
/-- .. and of entry k the first j. -/
def SomeOk (ok : Int → Bool) (ez : List Int) (j : Nat) : Prop := ∀ i, i < j → ok (ez.getD i 0) = true
/-- What checkExtensions answers. -/
def Ans (ok : Int → Bool) (E : Nat → Ent) (n : Nat) (e : Ending) : Prop :=
  (e = .returned .nilIface ∧ AllOk ok E n) ∨ ((∃ T v, e = .returned (.iface T v)) ∧ ¬ AllOk ok E n)

theorem someOk_all {ok : Int → Bool} {E : Nat → Ent} {k : Nat} (h : AllOk ok E k) (hs : SomeOk ok (E k).ez (E k).ez.length) : AllOk ok E (k + 1) := by
  intro i hi t ht
  by_cases e : i = k
  · subst e
    obtain ⟨j, hj, rfl⟩ := List.getElem_of_mem ht
    have := hs j hj
    simpa [hj] using this
  · exact h i (by omega) t ht
theorem not_all {ok : Int → Bool} {E : Nat → Ent} {k n j : Nat} (hk : k < n) (hj : j < (E k).ez.length) (h : ok ((E k).ez.getD j 0) = false) : ¬ AllOk ok E n := by
  intro ha
  have := ha k hk ((E k).ez.getD j 0) (by simp [hj])
  rw [h] at this
  cases this

theorem Row.at {kd : IntKind} {w : World} {B : Nat} {ao : Option Addr} {zs : List Int} (h : Row kd w B ao zs) {j : Nat} (hj : j < zs.length) :
    ∃ b off, ao = some ⟨b, off, none⟩ ∧ w.cell? ⟨b, off + j, none⟩ = some (.int kd (zs.getD j 0)) := by
  rcases h with rfl | ⟨b, off, rfl, _, hc⟩
  · simp at hj
  · exact ⟨b, off, rfl, hc j hj⟩

set_option maxRecDepth 100000 in
set_option maxHeartbeats 2000000 in
theorem check11 (F : Interp) (gm gc : Nat) (ae : Option Addr) (n : Nat) (r : ByteArray) (ok : Int → Bool) (E : Nat → Ent) (w : World) (hF : F.answers w.tape)
    (hcl : ∀ (t : Int) (w' : World), Below w.heap.size w w' → Calls Tryf.prog 11 #[.int .u16 t, .pointer (some ⟨gc, 0, none⟩)] w' fun e w'' => e = .returned (.bool (ok t)) ∧ w'' = w')
    (hm : w.cell? ⟨gm, 1, none⟩ = some (.slice ae n n)) (hE : Ents w ae n E) (hn : n ≤ 32768) :
    Calls Tryf.prog 17 #[.pointer (some ⟨gm, 0, none⟩), .func (.func 11) #[] #[.pointer (some ⟨gc, 0, none⟩)], .string r] w fun e w' => Ans ok E n e ∧ Below w.heap.size w w' := by
  have HE := hide hE
  have HC := hide hcl
  have HF := hide hF
  clear hE hcl hF
  go_enter Tryf.func17, Tryf.ntmps17
  go_wp2
  go_loopw [16] (fun i wr => ∃ k : Nat, k ≤ n ∧ i = .int .i64 k ∧ Below w.heap.size w wr ∧ AllOk ok E k) (fun i _ => n - (intOf i).toNat)
  case atStart => exact ⟨0, Nat.zero_le _, rfl, Below.refl _ _, fun i hi => by omega⟩
  case round =>
    obtain ⟨k, hk, rfl, hB, hA⟩ := hrel
    by_cases hlt : k < n
    · obtain ⟨b, off, rfl, h0, h1, hok⟩ := HE.out.at hlt
      have hlt' : (k : Int) < (n : Int) := by omega
      have hbl : b < w.heap.size := lt_of_cell h0
      have h0r := (hB.cell (p := ⟨b, off + k * 2, none⟩) hbl).trans h0
      have h1r := (hB.cell (p := ⟨b, off + k * 2 + 1, none⟩) hbl).trans h1
      clear h0 h1
      have hrow := hok.erow.later hB
      have hel := hok.elen
      have hem := hok.emax
      obtain ⟨ez, hez⟩ : ∃ ez, ez = (E k).ez := ⟨_, rfl⟩
      rw [← hez] at hrow hel
      have HEZ := hide hez
      clear hez hok
      generalize (E k).ca = ca at *
      generalize (E k).cl = cl at *
      generalize (E k).cc = cc at *
      generalize (E k).ea = ea at *
      generalize (E k).el = el at *
      generalize (E k).ec = ec at *
      have HEL := hide hel
      clear hel
      go_wp2
      have hB1 : Below w.heap.size w (wr.alloc (.cells #[.slice ca cl cc, .slice ea el ec] 42)) := hB.alloc hB.size _
      have hrow1 : Row .u16 (wr.alloc (.cells #[.slice ca cl cc, .slice ea el ec] 42)) 0 ea ez := hrow.later ((Below.refl _ _).alloc (Nat.le_refl _) _)
      clear h0r h1r hrow
      go_loopw [24] (fun i w2 => ∃ j : Nat, j ≤ el ∧ i = .int .i64 j ∧ Below w.heap.size w w2 ∧ Row .u16 w2 0 ea ez ∧ SomeOk ok ez j) (fun i _ => el - (intOf i).toNat)
      case atStart => exact ⟨0, Nat.zero_le _, rfl, hB1, hrow1, fun i hi => by omega⟩
      case round =>
        clear hB1 hrow1
        obtain ⟨j, hj, rfl, hB2, hrow2, hso⟩ := hrel
        by_cases hjl : j < el
        · obtain ⟨eb, eo, rfl, hcell⟩ := hrow2.at (j := j) (by rw [HEL.out]; exact hjl)
          obtain ⟨t, ht⟩ : ∃ t, t = ez.getD j 0 := ⟨_, rfl⟩
          rw [← ht] at hcell
          have HT := hide ht
          clear ht
          have hjl' : (j : Int) < (el : Int) := by omega
          go_wp2_with fail
          refine (HC.out t _ hB2).mono ?_
          rintro e w3 ⟨rfl, rfl⟩
          cases hokt : ok t with
          | false =>
            have HO := hide hokt
            clear hokt
            have hF3 : F.answers (w3.alloc (.cells #[.iface 3 (.int .i64 ((k : Int) + 1)), .iface 24 (.int .u16 t), .iface 9 (.string r)] 20)).tape := by
              have e : w3.tape = w.tape := hB2.tape
              show F.answers w3.tape
              rw [e]; exact HF.out
            have HF3 := hide hF3
            clear hF3
            go_wp2_with fail
            refine (errorf_any F ((k : Int) + 1) t r w3.heap.size _ HF3.out (by simp) (by simp) (by simp)).mono ?_
            rintro e w4 ⟨⟨a, rfl⟩, hB4⟩
            have hB5 : Below w.heap.size w w4 := (hB2.alloc hB2.size _).trans (hB4.mono (by simp; have := hB2.size; omega))
            have hno : ¬ AllOk ok E n := not_all hlt (j := j) (by rw [← HEZ.out, HEL.out]; exact hjl) (by rw [← HEZ.out, ← HT.out]; exact HO.out)
            clear hB4
            go_wp2
            go_ret
            exact ⟨.inr ⟨⟨_, _, rfl⟩, hno⟩, hB5⟩
          | true =>
            have hso' : SomeOk ok ez (j + 1) := by
              intro i hi
              by_cases e : i = j
              · subst e; rw [← HT.out]; exact hokt
              · exact hso i (by omega)
            clear hokt
            go_wp2
            go_roundw
            case rel => exact ⟨j + 1, by omega, by go_num, hB2, hrow2, hso'⟩
            case measure => simp [intOf]; omega
        · have hAn : AllOk ok E (k + 1) := someOk_all hA (by rw [← HEZ.out, HEL.out, show el = j from by omega]; exact hso)
          go_wp2
          go_roundw
          case rel => exact ⟨k + 1, by omega, by go_num, hB2, hAn⟩
          case measure => simp [intOf]; omega
    · obtain rfl : k = n := by omega
      go_wp2
      go_ret
      exact ⟨.inl ⟨rfl, hA⟩, hB⟩

end Go.Proofs.Qxb6605859aFmt
