import Derived.Test.Qxb6602315aModsProg
import Derived.Test.Qxb6602315aModsFloat
import Derived.WalkKit
import Derived.WalkSpells
import Derived.WalkLawsBesides
import Derived.BigQuiet
import Derived.Deep.QuietTactic
import Derived.Deep.OwnRows
namespace Go.Proofs.Qxb6602315aMods
open Go.RowKit

/-- The numbers of a slice of floats, by their bits. -/
def FCells (w : World) (x : Addr) (len : Nat) (z : Nat → Nat) : Prop := ∀ i, i < len → w.cell? (x.add i) = some (.float .f64 (z i))

theorem FCells.below {w w' : World} {x : Addr} {len B : Nat} {z : Nat → Nat} (h : FCells w x len z) (hb : Below B w w') (hx : 0 < len → x.block < B) : FCells w' x len z := by
  intro i hi
  rw [hb.cell (by rw [Addr.add]; split <;> exact hx (by omega)), h i hi]

theorem tbytes_any (a : Option Addr) (len cap : Nat) (p : Int) (w : World) (hl : len ≤ maxLen) :
    Calls Trym.prog 22 #[.slice a len cap, .int .i64 p] w fun e w' => (e = .returned (.bool true) ∨ e = .returned (.bool false)) ∧ w = w' := by
  unfold maxLen at hl
  go_enter Trym.func22, Trym.ntmps22
  go_wp2
  all_goals
    go_ret
    first | exact ⟨Or.inl rfl, rfl⟩ | exact ⟨Or.inr rfl, rfl⟩

/-- What the guard has let by. -/
def Fits (len : Nat) (p : Int) (z : Nat → Nat) : Prop := len ≤ 65536 ∧ 1 ≤ p ∧ p ≤ 1024 ∧ (1 < p → (len : Int) * ((p - 1) * p) ≤ 1048576) ∧ ∀ k, k < len → Fl.fin (z k) = true

/-- The NaN that the tape gives. -/
def nanOf (w : World) (x : Nat) : Nat := Question.cut (.nanBits .f64 x x) (w.tape w.drawn (.nanBits .f64 x x))

theorem run_float_nan {P : Program} (w : World) (t : TypeId) (x : Nat) (h : Fl.fin x = false) :
    (binOp .sub t (.float .f64 x) (.float .f64 x)).run P w = .ok (.float .f64 (nanOf w x)) w.drew := by
  have hs : FloatKind.f64.format.sub x x = none := Fl.subself_not x h
  simp [binOp, Op.floatArith, hs, nanOf]
  intro h
  simp [Question.forced] at h

theorem nan_neq (w : World) (x : Nat) : (FloatKind.f64.format.order (nanOf w x) 0 != some .eq) = true := by
  have h : FloatKind.f64.format.order (nanOf w x) 0 = none := Fl.order_nan _
  rw [h]; rfl

theorem zero_eq : (FloatKind.f64.format.order 0 0 != some .eq) = false := by
  have h : FloatKind.f64.format.order 0 0 = some .eq := Fl.order_zero
  rw [h]; rfl

set_option maxHeartbeats 1000000 in
theorem skips_any (a : Option Addr) (len cap : Nat) (p : Int) (z : Nat → Nat) (w : World) (hl : len ≤ maxLen) (ha : ∀ x, a = some x → (0 < len → x.block < w.heap.size) ∧ FCells w x len z) (hn : a = none → len = 0) (hz : ∀ i, i < len → z i < 18446744073709551616) :
    Calls Trym.prog 23 #[.slice a len cap, .int .i64 p] w fun e w' => (e = .returned (.bool true) ∨ (e = .returned (.bool false) ∧ Fits len p z)) ∧ Below w.heap.size w w' := by
  have hl' : len ≤ 9223372036854775807 := hl
  have HZ : Hid (∀ i, i < len → z i < 18446744073709551616) := hz
  have HA : Hid (∀ x, a = some x → (0 < len → x.block < w.heap.size) ∧ FCells w x len z) := ha
  have HN : Hid (a = none → len = 0) := hn
  clear hz ha hn hl
  by_cases h1 : 65536 < len
  · go_enter Trym.func23, Trym.ntmps23
    go_wp2
    go_ret
    exact ⟨Or.inl rfl, Below.refl _ _⟩
  by_cases h2 : p < 1
  · go_enter Trym.func23, Trym.ntmps23
    go_wp2
    go_ret
    exact ⟨Or.inl rfl, Below.refl _ _⟩
  by_cases h3 : 1024 < p
  · go_enter Trym.func23, Trym.ntmps23
    go_wp2
    go_ret
    exact ⟨Or.inl rfl, Below.refl _ _⟩
  have hpp : 0 ≤ (p - 1) * p ∧ (p - 1) * p ≤ 1048576 := by
    constructor
    · exact Int.mul_nonneg (by omega) (by omega)
    · calc (p - 1) * p ≤ 1024 * 1024 := Int.mul_le_mul (by omega) (by omega) (by omega) (by omega)
        _ = 1048576 := by decide
  obtain ⟨hp0, hp1⟩ := hpp
  by_cases h4 : 1 < p
  · have hp2 : 0 < (p - 1) * p := Int.mul_pos (by omega) (by omega)
    by_cases h5 : 1048576 / ((p - 1) * p) < (len : Int)
    · go_enter Trym.func23, Trym.ntmps23
      go_wp2
      go_ret
      exact ⟨Or.inl rfl, Below.refl _ _⟩
    have hF : 1 < p → (len : Int) * ((p - 1) * p) ≤ 1048576 := fun _ => (Int.le_ediv_iff_mul_le hp2).1 (by omega)
    go_enter Trym.func23, Trym.ntmps23
    go_wp2
    go_loopw [5] (fun i wr => ∃ k : Nat, k ≤ len ∧ i = .int .i64 k ∧ (∀ j, j < k → Fl.fin (z j) = true) ∧ Below w.heap.size w wr) (fun i _ => len - (intOf i).toNat)
    case atStart => exact ⟨0, by omega, rfl, fun j hj => absurd hj (by omega), Below.refl _ _⟩
    case round =>
      obtain ⟨k, hk, rfl, hfin, hb⟩ := hrel
      have HF : Hid (∀ j, j < k → Fl.fin (z j) = true) := hfin
      clear hfin
      by_cases hlt : k < len
      · have hz := HZ.out k hlt
        cases a with
        | none => exact absurd (HN.out rfl) (by omega)
        | some x =>
          obtain ⟨hxb, hcs⟩ := HA.out x rfl
          have hc := hcs.below hb hxb k hlt
          clear hcs
          have hlt' : (k : Int) < (len : Int) := by omega
          cases hf : Fl.fin (z k) with
          | true =>
            have hsub := fun w => run_float_arith (P := Trym.prog) w .sub 50 .f64 (z k) (z k) 0 (Fl.subself (z k) hz hf)
            have hne := zero_eq
            go_wp2
            go_quiet (fail)
            go_wp2
            go_roundw
            case rel =>
              refine ⟨k + 1, by omega, by go_num, fun j hj => ?_, hb.trans ⟨rfl, rfl, rfl, Nat.le_refl _, fun _ _ => rfl⟩⟩
              rcases Nat.lt_or_ge j k with h | h
              · exact HF.out j h
              · rw [show j = k from by omega]; exact hf
            case measure => simp [intOf]; omega
          | false =>
            have hsub := fun w => run_float_nan (P := Trym.prog) w 50 (z k) hf
            have hne := fun w => nan_neq w (z k)
            go_wp2
            go_region
            all_goals
              go_wp2
              go_ret
              exact ⟨Or.inl rfl, hb.trans ⟨rfl, rfl, rfl, Nat.le_refl _, fun _ _ => rfl⟩⟩
      · go_wp2
        go_ret
        exact ⟨Or.inr ⟨rfl, by omega, by omega, by omega, hF, fun j hj => HF.out j (by omega)⟩, hb⟩
  · have hF : 1 < p → (len : Int) * ((p - 1) * p) ≤ 1048576 := fun h => absurd h h4
    go_enter Trym.func23, Trym.ntmps23
    go_wp2
    go_loopw [5] (fun i wr => ∃ k : Nat, k ≤ len ∧ i = .int .i64 k ∧ (∀ j, j < k → Fl.fin (z j) = true) ∧ Below w.heap.size w wr) (fun i _ => len - (intOf i).toNat)
    case atStart => exact ⟨0, by omega, rfl, fun j hj => absurd hj (by omega), Below.refl _ _⟩
    case round =>
      obtain ⟨k, hk, rfl, hfin, hb⟩ := hrel
      have HF : Hid (∀ j, j < k → Fl.fin (z j) = true) := hfin
      clear hfin
      by_cases hlt : k < len
      · have hz := HZ.out k hlt
        cases a with
        | none => exact absurd (HN.out rfl) (by omega)
        | some x =>
          obtain ⟨hxb, hcs⟩ := HA.out x rfl
          have hc := hcs.below hb hxb k hlt
          clear hcs
          have hlt' : (k : Int) < (len : Int) := by omega
          cases hf : Fl.fin (z k) with
          | true =>
            have hsub := fun w => run_float_arith (P := Trym.prog) w .sub 50 .f64 (z k) (z k) 0 (Fl.subself (z k) hz hf)
            have hne := zero_eq
            go_wp2
            go_quiet (fail)
            go_wp2
            go_roundw
            case rel =>
              refine ⟨k + 1, by omega, by go_num, fun j hj => ?_, hb.trans ⟨rfl, rfl, rfl, Nat.le_refl _, fun _ _ => rfl⟩⟩
              rcases Nat.lt_or_ge j k with h | h
              · exact HF.out j h
              · rw [show j = k from by omega]; exact hf
            case measure => simp [intOf]; omega
          | false =>
            have hsub := fun w => run_float_nan (P := Trym.prog) w 50 (z k) hf
            have hne := fun w => nan_neq w (z k)
            go_wp2
            go_region
            all_goals
              go_wp2
              go_ret
              exact ⟨Or.inl rfl, hb.trans ⟨rfl, rfl, rfl, Nat.le_refl _, fun _ _ => rfl⟩⟩
      · go_wp2
        go_ret
        exact ⟨Or.inr ⟨rfl, by omega, by omega, by omega, hF, fun j hj => HF.out j (by omega)⟩, hb⟩

end Go.Proofs.Qxb6602315aMods
