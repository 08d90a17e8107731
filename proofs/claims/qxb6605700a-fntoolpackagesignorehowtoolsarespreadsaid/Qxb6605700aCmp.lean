import Derived.Test.Qxb6605700aIdx
import Derived.Lib.Strings
import Derived.Lib.Slices
import Derived.Lib.Walk
import Derived.Lib.Bytealg
import Derived.Deep.RegionHeld3
namespace Go.Proofs.Qxb6605700a
open Go.ChangeShapes Go.WideShapes Go.ChangeAt Go.RowKit
set_option linter.unusedVariables false

/-- How two texts compare: -1, 0, 1. -/
def cmpS (a b : ByteArray) : Int := Lib.compareBytes a.data.toList b.data.toList

set_option maxHeartbeats 1000000 in
set_option maxRecDepth 100000 in
theorem compareString (a b : ByteArray) (w : World) :
    Calls Try.prog 28 #[.string a, .string b] w fun e w' => e = .returned (.int .i64 (cmpS a b)) ∧ w' = w := by
  go_enter Try.func28, Try.ntmps28
  go_wp2
  rw [run_callFunc_extern Try.func32 (by kernel_rfl) (by kernel_rfl) (by kernel_rfl) (e := Extern.BytealgCompare.compare) (by kernel_rfl), Lib.run_compareString]
  simp only [Result.andThen]
  rw [Oper.upon_value]
  go_wp2
  go_ret
  exact ⟨rfl, rfl⟩

set_option maxHeartbeats 1000000 in
theorem stringsCompare (a b : ByteArray) (w : World) :
    Calls Try.prog 24 #[.string a, .string b] w fun e w' => e = .returned (.int .i64 (cmpS a b)) ∧ w' = w := by
  go_enter Try.func24, Try.ntmps24
  go_wp2_with (go_at_call 28; refine (compareString _ _ _).mono ?_; rintro e w' ⟨rfl, rfl⟩)
  go_ret
  exact ⟨rfl, rfl⟩

/-- The first that is not 0. -/
def orZ (x y : Int) : Int := if x ≠ 0 then x else y

set_option maxHeartbeats 1000000 in
theorem cmpOr (b : Nat) (x y : Int) (w : World) (hx : w.cell? ⟨b, 0, none⟩ = some (.int .i64 x)) (hy : w.cell? ⟨b, 1, none⟩ = some (.int .i64 y)) :
    Calls Try.prog 31 #[.slice (some ⟨b, 0, none⟩) 2 2] w fun e w' => e = .returned (.int .i64 (orZ x y)) ∧ w' = w := by
  by_cases h0 : x = 0
  · subst h0
    by_cases h1 : y = 0
    · subst h1
      go_enter Try.func31, Try.ntmps31
      go_wp2
      go_loop [8] (fun i => ∃ k : Nat, k ≤ 2 ∧ i = .int .i64 k) (fun i => 2 - (intOf i).toNat)
      case atStart => exact ⟨0, by omega, rfl⟩
      case round =>
        obtain ⟨k, hk, rfl⟩ := hrel
        match k, hk with
        | 0, _ =>
          go_wp2
          go_round
          case rel => exact ⟨1, by omega, rfl⟩
          case measure => simp [intOf]
        | 1, _ =>
          go_wp2
          go_round
          case rel => exact ⟨2, by omega, rfl⟩
          case measure => simp [intOf]
        | 2, _ =>
          go_wp2
          go_ret
          exact ⟨by simp [orZ], rfl⟩
    · have hd : decide (y = 0) = false := by simp [h1]
      go_enter Try.func31, Try.ntmps31
      go_wp2
      go_loop [8] (fun i => ∃ k : Nat, k ≤ 1 ∧ i = .int .i64 k) (fun i => 2 - (intOf i).toNat)
      case atStart => exact ⟨0, by omega, rfl⟩
      case round =>
        obtain ⟨k, hk, rfl⟩ := hrel
        match k, hk with
        | 0, _ =>
          go_wp2
          go_round
          case rel => exact ⟨1, by omega, rfl⟩
          case measure => simp [intOf]
        | 1, _ =>
          go_wp2
          go_ret
          exact ⟨by simp [orZ], rfl⟩
  · have hd : decide (x = 0) = false := by simp [h0]
    go_enter Try.func31, Try.ntmps31
    go_wp2
    go_loop [8] (fun i => i = .int .i64 0) (fun i => 0)
    case atStart => rfl
    case round =>
      obtain rfl := hrel
      go_wp2
      go_ret
      exact ⟨by simp [orZ, h0], rfl⟩

set_option maxRecDepth 100000 in
set_option maxHeartbeats 4000000 in
theorem byPathAndContent (b1 b2 : Nat) (p1 p2 s1 s2 : ByteArray) (w : World) (h1 : w.cell? ⟨b1, 0, none⟩ = some (.string p1)) (h2 : w.cell? ⟨b1, 2, none⟩ = some (.string s1)) (h3 : w.cell? ⟨b2, 0, none⟩ = some (.string p2)) (h4 : w.cell? ⟨b2, 2, none⟩ = some (.string s2)) :
    Calls Try.prog 26 #[.pointer (some ⟨b1, 0, none⟩), .pointer (some ⟨b2, 0, none⟩)] w fun e w' => e = .returned (.int .i64 (orZ (cmpS p1 p2) (cmpS s1 s2))) ∧ ∃ q o, w' = (w.drewN q).alloc o := by
  go_enter Try.func26, Try.ntmps26
  go_wp2_with fail
  go_region_held3 (fun w' => w'.cell? ⟨b1, 0, none⟩ = some (.string p1) ∧ w'.cell? ⟨b1, 2, none⟩ = some (.string s1) ∧ w'.cell? ⟨b2, 0, none⟩ = some (.string p2) ∧ w'.cell? ⟨b2, 2, none⟩ = some (.string s2)) (go_keep)
    (first | (go_at_call 24; refine (stringsCompare _ _ _).mono ?_; rintro e w' ⟨rfl, rfl⟩) | (go_at_call 31; refine (cmpOr _ (cmpS p1 p2) (cmpS s1 s2) _ (by simp) (by simp)).mono ?_; rintro e w' ⟨rfl, rfl⟩))
  all_goals go_wp2
  all_goals go_ret
  exact ⟨rfl, 1, _, rfl⟩

/-! ### the order -/
theorem cb_anti : ∀ a b : List UInt8, Lib.compareBytes a b = - Lib.compareBytes b a
  | [], [] => by simp [Lib.compareBytes]
  | [], _ :: _ => by simp [Lib.compareBytes]
  | _ :: _, [] => by simp [Lib.compareBytes]
  | x :: a, y :: b => by
    have ih := cb_anti a b
    simp only [Lib.compareBytes, UInt8.lt_iff_toNat_lt]
    split
    · split
      · omega
      · rfl
    · split
      · rfl
      · exact ih
theorem cb_trans : ∀ a b c : List UInt8, Lib.compareBytes a b ≤ 0 → Lib.compareBytes b c ≤ 0 → Lib.compareBytes a c ≤ 0 ∧ (Lib.compareBytes a b < 0 ∨ Lib.compareBytes b c < 0 → Lib.compareBytes a c < 0)
  | [], [], c => fun h1 h2 => ⟨h2, fun h => by simpa [Lib.compareBytes] using h⟩
  | [], y :: b, [] => fun h1 h2 => by simp [Lib.compareBytes] at h2
  | [], y :: b, z :: c => fun _ _ => by simp [Lib.compareBytes]
  | x :: a, [], c => fun h1 _ => by simp [Lib.compareBytes] at h1
  | x :: a, y :: b, [] => fun _ h2 => by simp [Lib.compareBytes] at h2
  | x :: a, y :: b, z :: c => fun h1 h2 => by
    have ih := cb_trans a b c
    simp only [Lib.compareBytes, UInt8.lt_iff_toNat_lt] at h1 h2 ⊢
    by_cases xy : x.toNat < y.toNat <;> by_cases yx : y.toNat < x.toNat <;> by_cases yz : y.toNat < z.toNat <;> by_cases zy : z.toNat < y.toNat <;> by_cases xz : x.toNat < z.toNat <;> by_cases zx : z.toNat < x.toNat <;> simp only [xy, yx, yz, zy, xz, zx, if_true, if_false] at h1 h2 ⊢ <;> first | omega | exact ⟨by omega, fun _ => by omega⟩ | exact ih h1 h2
theorem cb_refl (a : List UInt8) : Lib.compareBytes a a = 0 := by have := cb_anti a a; omega

end Go.Proofs.Qxb6605700a
