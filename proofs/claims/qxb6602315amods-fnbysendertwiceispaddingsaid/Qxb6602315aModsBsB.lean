import Derived.Test.Qxb6602315aModsBsA
import Derived.Test.Qxb6602315aModsFloat
import Derived.WalkKit
import Derived.WalkSpells
import Derived.WalkLawsBesides
import Derived.BigQuiet
import Derived.Deep.QuietTactic
namespace Go.Proofs.Qxb6602315aMods
open Go.RowKit

/-! ### sameFloat of a number and itself -/

theorem order_self (x : Nat) : Ieee.double.order x x = none ∨ Ieee.double.order x x = some .eq := by
  unfold Ieee.Format.order
  cases Ieee.double.read x with
  | number s m i => right; simp [Ieee.Datum.order]
  | infinity s => right; cases s <;> rfl
  | nan s t => left; rfl

theorem read_one : Ieee.double.read 4607182418800017408 = .number false 4503599627370496 (-52) := by decide

theorem div_zero (x : Nat) (h : Ieee.double.order x 0 = some .eq) : ∃ r, Ieee.double.div 4607182418800017408 x = some r := by
  unfold Ieee.Format.order at h
  unfold Ieee.Format.div
  rw [read_one]
  rw [Fl.read_zero] at h
  cases hr : Ieee.double.read x with
  | number s m i =>
    by_cases hm : m = 0
    · exact ⟨_, by simp [Ieee.Datum.quotient, hm]; rfl⟩
    · exact ⟨_, by simp [Ieee.Datum.quotient, hm]; rfl⟩
  | infinity s => rw [hr] at h; cases s <;> simp [Ieee.Datum.order] at h
  | nan s t => rw [hr] at h; simp [Ieee.Datum.order] at h

set_option maxHeartbeats 400000 in
theorem same_any (x : Nat) (w : World) : Calls Trym.prog 28 #[.float .f64 x, .float .f64 x] w fun e w' => e = .returned (.bool true) ∧ w' = w := by
  have e0 : FloatKind.f64.format = Ieee.double := rfl
  rcases order_self x with h | h
  · have h1 : (FloatKind.f64.format.order x x != some .eq) = true := by rw [e0, h]; rfl
    clear e0
    go_enter Trym.func28, Trym.ntmps28
    go_wp2
    go_ret
    exact ⟨rfl, rfl⟩
  · have h1 : (FloatKind.f64.format.order x x != some .eq) = false := by rw [e0, h]; rfl
    by_cases hz : Ieee.double.order x 0 = some .eq
    · obtain ⟨r, hr⟩ := div_zero x hz
      have h2 : (FloatKind.f64.format.order x 0 == some .eq) = true := by rw [e0, hz]; rfl
      have hq := fun w => run_float_arith (P := Trym.prog) w .quo 50 .f64 4607182418800017408 x r hr
      clear e0 hz hr h
      go_enter Trym.func28, Trym.ntmps28
      go_wp2
      go_ret
      exact ⟨rfl, rfl⟩
    · have h2 : (FloatKind.f64.format.order x 0 == some .eq) = false := by rw [e0]; simpa using hz
      clear e0 hz h
      go_enter Trym.func28, Trym.ntmps28
      go_wp2
      go_ret
      exact ⟨rfl, rfl⟩

/-! ### bsSameVec of two vectors of the same bits -/

set_option maxHeartbeats 1000000 in
theorem vec_some (x y : Addr) (m c d lo lo' : Nat) (z : Nat → Nat) (w : World) (hm : m ≤ 131072)
    (ha : CellsIn lo w (some x) m (fun i => .float .f64 (z i))) (hb : CellsIn lo' w (some y) m (fun i => .float .f64 (z i))) :
    Calls Trym.prog 21 #[.slice (some x) m c, .slice (some y) m d] w fun e w' => e = .returned (.bool true) ∧ Below w.heap.size w w' := by
  have HA : Hid (CellsIn lo w (some x) m (fun i => .float .f64 (z i))) := ha
  have HB : Hid (CellsIn lo' w (some y) m (fun i => .float .f64 (z i))) := hb
  have hnil := fun (w : World) (a : Option Addr) (l c : Nat) => Lib.run_eql_slice_nil (P := Trym.prog) w 43 50 a l c 0 0 Trym.underlying43
  clear ha hb
  go_enter Trym.func21, Trym.ntmps21
  go_wp2
  clear hnil
  go_loopw [5] (fun i wr => ∃ k : Nat, k ≤ m ∧ i = .int .i64 k ∧ Below w.heap.size w wr) (fun i _ => m - (intOf i).toNat)
  case atStart => exact ⟨0, by omega, rfl, Below.refl _ _⟩
  case round =>
    obtain ⟨k, hk, rfl, hbw⟩ := hrel
    by_cases hlt : k < m
    · have hcx := ((HA.out.below hbw).1 x rfl).2 k hlt
      have hcy := ((HB.out.below hbw).1 y rfl).2 k hlt
      have hlt' : (k : Int) < (m : Int) := by omega
      go_wp2
      go_quiet ((go_at_call 28; exact Calls.quiet_of_same (same_any _ _)))
      go_wp2
      go_roundw
      case rel => exact ⟨k + 1, by omega, by go_num, hbw.trans ⟨rfl, rfl, rfl, Nat.le_refl _, fun _ _ => rfl⟩⟩
      case measure => simp [intOf]; omega
    · go_wp2
      go_ret
      exact ⟨rfl, hbw⟩

set_option maxHeartbeats 1000000 in
theorem vec_none (c d : Nat) (w : World) :
    Calls Trym.prog 21 #[.slice none 0 c, .slice none 0 d] w fun e w' => e = .returned (.bool true) ∧ Below w.heap.size w w' := by
  have hnil := fun (w : World) (a : Option Addr) (l c : Nat) => Lib.run_eql_slice_nil (P := Trym.prog) w 43 50 a l c 0 0 Trym.underlying43
  go_enter Trym.func21, Trym.ntmps21
  go_wp2
  refine wp_loop_rounds 1 ?_
  rw [rounds_succ]
  go_wp2
  go_ret
  exact ⟨rfl, Below.refl _ _⟩

theorem vec_any (v u : Value) (m lo lo' : Nat) (z : Nat → Nat) (nil : Bool) (w : World) (hm : m ≤ 131072) (hv : Vec lo w v m z nil) (hu : Vec lo' w u m z nil) :
    Calls Trym.prog 21 #[v, u] w fun e w' => e = .returned (.bool true) ∧ Below w.heap.size w w' := by
  obtain ⟨a, c, rfl, ha, hac⟩ := hv
  obtain ⟨b, d, rfl, hb, hbc⟩ := hu
  cases a with
  | none =>
    cases b with
    | none =>
      obtain rfl : m = 0 := hac.2 rfl
      exact vec_none c d w
    | some y => rw [← hb] at ha; cases ha
  | some x =>
    cases b with
    | none => rw [← hb] at ha; cases ha
    | some y => exact vec_some x y m c d lo lo' z w hm hac hbc

end Go.Proofs.Qxb6602315aMods
