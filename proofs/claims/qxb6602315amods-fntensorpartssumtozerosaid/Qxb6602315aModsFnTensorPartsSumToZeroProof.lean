import Derived.Test.Qxb6602315aModsRows
import Derived.Test.Qxb6602315aModsTnD
import Derived.WalkKit
import Derived.ProofKit
import Derived.Below
import Derived.Deep.Slices
namespace Go.Proofs.Qxb6602315aMods.fnTensorPartsSumToZero
open Go.ChangeShapes Go.WideShapes Go.ChangeAt Go.RowKit Go.Deep

theorem own : ownKnob Trym.prog.godebug = none := by kernel_rfl
theorem laidOut : laidOutB Trym.prog = true := by kernel_rfl
theorem cells50 : Trym.prog.cellsOf 50 = 1 := by kernel_rfl

theorem trod_float {H : Type} {enc : TypeId × Value → H} {w : World} {base : Nat} {spare : Nat → Bool} {held : Bool} {fuel : Nat} {v : Value} {x : DataW H × List MemPlace}
    (h : DataW.trod enc Trym.prog w base spare held fuel 50 [v] = some x) : ∃ b, v = .float .f64 b ∧ b < 18446744073709551616 := by
  cases fuel with
  | zero => simp [DataW.trod] at h
  | succ n =>
    cases v <;> simp [DataW.trod, Trym.underlying50] at h
    obtain ⟨⟨rfl, hw⟩, _⟩ := h
    simp [Lit.wf] at hw
    exact ⟨_, rfl, hw⟩

/-- A slice of floats that came in, as the walk takes it. -/
theorem view {H : Type} {enc : TypeId × Value → H} {W : World} {a : Option Addr} {len cap : Nat} {d : DataW H} {p : List MemPlace}
    (h : DataW.Trod enc Trym.prog W 0 (fun _ => true) true 43 (.slice a len cap) d p) : ∃ z, VOK W a len z ∧ len ≤ maxLen ∧ ∀ i, i < len → z i < 18446744073709551616 := by
  obtain ⟨fuel, hf⟩ := h
  rcases open_slice1 Trym.underlying43 cells50 hf with ⟨hcs, _⟩ | ⟨x, l, c, mm, n, V, D, Pl, hcs, _, hl, hm, hmm, _, hcell⟩
  · simp [Value.cells] at hcs
    obtain ⟨rfl, rfl, rfl⟩ := hcs
    exact ⟨fun _ => 0, ⟨(fun x hx => by cases hx), fun _ => rfl⟩, Nat.zero_le _, fun i hi => by omega⟩
  · simp [Value.cells] at hcs
    obtain ⟨rfl, rfl, rfl⟩ := hcs
    have hle : len ≤ mm := by rw [hmm]; simpa using hl
    have key : ∀ i, i < len → ∃ b, V i = .float .f64 b ∧ b < 18446744073709551616 := fun i hi => trod_float (hcell i (by omega)).2
    obtain ⟨z, hz⟩ := choose_lt (p := fun i b => V i = .float .f64 b ∧ b < 18446744073709551616) key
    refine ⟨z, ⟨fun y hy => ?_, fun e => by cases e⟩, Nat.le_trans hl hm, fun i hi => (hz i hi).2⟩
    cases hy
    refine ⟨fun h0 => ?_, fun i hi => ?_⟩
    · have hc := (hcell 0 (by omega)).1
      rcases Nat.lt_or_ge x.block W.heap.size with h | h
      · exact h
      · simp [World.cell?, Addr.add, Array.getElem?_eq_none h] at hc
    · rw [(hcell i (by omega)).1, (hz i hi).1]

set_option maxHeartbeats 800000 in
set_option maxRecDepth 100000 in
theorem lifted (os : Os) (started : os.Started) (H : Type) (enc : TypeId × Value → H) :
    ReturnsInHanded {} Trym.checked os 6 .any (Rows.fnTensorPartsSumToZeroSpec.pre6 enc Trym.prog Trym.f6 Rows.fnTensorPartsSumToZeroRow.domain false) (Rows.fnTensorPartsSumToZeroSpec.post enc Trym.prog Trym.f6 false true false false) := by
  refine returnsInHanded_of_change (C := Trym.checked) own started (by kernel_rfl) Trym.func6
    (ChangeSpec.witness6 (enc := enc) (C := Trym.checked) false ⟨#[], #[.slice none 0 0, .int .i64 0], []⟩ 8 (by kernel_rfl) (by kernel_rfl) (by kernel_rfl) (by kernel_rfl)) ?_
  intro W base args ds gs before hval0 hW hcnd _
  have hval : ∀ (j : Nat) t v, Trym.f6.params[j]? = some t → args[j]? = some v → Value.okWide Trym.prog W .any base t v := hval0
  have hW' := hW
  obtain ⟨p, q, hA0, hV, rfl, hfz, hnd⟩ := hW
  have hA : DataW.TrodAll enc Trym.prog W 0 (fun _ => true) true Trym.f6.params.toList args.toList ds p := hA0
  rw [Trym.params6] at hA hval
  obtain ⟨v0, v1, d0, d1, p0, p1, rfl, rfl, rfl, h0, h1⟩ := trodAll_two hA
  obtain ⟨rfl, rfl⟩ := trodVars_none hV
  obtain ⟨a0, len0, cap0, rfl⟩ := okWide_slice Trym.underlying43 (hval 0 43 v0 rfl rfl)
  have lt0 : ∀ x ∈ p0, x.block < W.heap.size := by obtain ⟨m, hm⟩ := h0; exact DataW.trod_lt m _ _ _ hm
  obtain ⟨z, hv, hl, hz⟩ := view h0
  obtain ⟨a1, rfl, rfl, rfl, w1⟩ := open_int Trym.underlying3 (hval 1 3 v1 rfl rfl) h1
  clear hA0 hval0 hcnd
  refine (tensor_law a0 len0 cap0 a1 z W hl hv hz).mono fun e W' ⟨he, bel⟩ => ?_
  subst he
  exact ⟨_, rfl, _, _, _, [], _, [], hW', trodAll_mk1 (shut_bool Trym.underlying4 _), trodAll_mk2 (Below.trod laidOut (by kernel_rfl) (of_decide_eq_true (by kernel_rfl)) h0 bel lt0) (shut_int Trym.underlying3 w1), rfl, bel.frame _, fun h => by cases h⟩

theorem over : Rows.fnTensorPartsSumToZeroRow.holds Trym.pinned (OpenSpec.ofChange Rows.fnTensorPartsSumToZeroSpec) :=
  OpenClaim.holds_of_wide 6 Trym.f6 rfl rfl rfl rfl rfl rfl rfl ⟨rfl, rfl, rfl, rfl, rfl⟩ rfl rfl rfl rfl rfl (by kernel_rfl) Trym.func6 (by kernel_rfl)
    (of_decide_eq_true (by kernel_rfl)) (by unfold Func.isWrapper; first | (rw [if_pos (by decide +kernel)]; kernel_rfl) | (rw [if_neg (by decide +kernel)]; exact ⟨rfl, rfl⟩))
    (fun os started H enc _ => lifted os started H enc)

theorem proved : Rows.FnTensorPartsSumToZeroSaid := over
end Go.Proofs.Qxb6602315aMods.fnTensorPartsSumToZero
