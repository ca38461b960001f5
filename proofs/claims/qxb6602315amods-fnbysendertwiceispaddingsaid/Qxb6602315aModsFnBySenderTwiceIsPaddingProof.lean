import Derived.Test.Qxb6602315aModsRows
import Derived.Test.Qxb6602315aModsBsH
import Derived.WalkKit
import Derived.ProofKit
import Derived.Below
import Derived.Deep.Slices
namespace Go.Proofs.Qxb6602315aMods.fnBySenderTwiceIsPadding
open Go.ChangeShapes Go.WideShapes Go.ChangeAt Go.RowKit Go.Deep

theorem own : ownKnob Trym.prog.godebug = none := by kernel_rfl
theorem laidOut : laidOutB Trym.prog = true := by kernel_rfl
theorem cells50 : Trym.prog.cellsOf 50 = 1 := by kernel_rfl
theorem cells43 : Trym.prog.cellsOf 43 = 1 := by kernel_rfl
theorem cells45 : Trym.prog.cellsOf 45 = 1 := by kernel_rfl

section
variable {H : Type} {enc : TypeId × Value → H} {w : World} {fuel : Nat} {v : Value} {x : DataW H × List MemPlace}

theorem trod_float (h : DataW.trod enc Trym.prog w 0 (fun _ => true) true fuel 50 [v] = some x) : ∃ b, v = .float .f64 b := by
  cases fuel with
  | zero => simp [DataW.trod] at h
  | succ n =>
    cases v <;> simp [DataW.trod, Trym.underlying50] at h
    obtain ⟨⟨rfl, _⟩, _⟩ := h
    exact ⟨_, rfl⟩

/-- Cells that came in. -/
theorem cells_in {a : Addr} {n : Nat} {V U : Nat → Value} (h : ∀ i, i < n → w.cell? (a.add i) = some (V i)) (e : ∀ i, i < n → V i = U i) : CellsIn 0 w (some a) n U := by
  refine ⟨fun y hy => ?_, fun e => by cases e⟩
  cases hy
  exact ⟨fun h0 => ⟨Nat.zero_le _, cell_lt (h 0 h0)⟩, fun i hi => by rw [h i hi, e i hi]⟩

theorem vec_view (h : DataW.trod enc Trym.prog w 0 (fun _ => true) true fuel 43 [v] = some x) : ∃ m z nil, Vec 0 w v m z nil := by
  rcases open_slice1 Trym.underlying43 cells50 h with ⟨hcs, _⟩ | ⟨a, l, c, mm, n, V, D, Pl, hcs, _, hl, hm, hmm, _, hcell⟩
  · simp at hcs
    subst hcs
    exact ⟨0, fun _ => 0, true, Vec.none _⟩
  · simp at hcs
    subst hcs
    have hle : l ≤ mm := by rw [hmm]; simpa using hl
    obtain ⟨z, hz⟩ := choose_lt (p := fun i b => V i = .float .f64 b) (n := l) (fun i hi => trod_float (hcell i (by omega)).2)
    exact ⟨l, z, false, some a, c, rfl, rfl, cells_in (fun i hi => (hcell i (by omega)).1) hz⟩

theorem msg_view (h : DataW.trod enc Trym.prog w 0 (fun _ => true) true fuel 45 [v] = some x) : ∃ l M z nl, Msg 0 w v l M z nl := by
  rcases open_slice1 Trym.underlying45 cells43 h with ⟨hcs, _⟩ | ⟨a, l, c, mm, n, V, D, Pl, hcs, _, hl, hm, hmm, _, hcell⟩
  · simp at hcs
    subst hcs
    exact ⟨0, fun _ => 0, fun _ _ => 0, fun _ => true, none, 0, fun _ => .slice none 0 0, rfl, ⟨(fun x hx => by cases hx), fun _ => rfl⟩, fun k hk => absurd hk (by omega)⟩
  · simp at hcs
    subst hcs
    have hle : l ≤ mm := by rw [hmm]; simpa using hl
    obtain ⟨f, hf⟩ := choose_lt (α := Nat × (Nat → Nat) × Bool) (p := fun i t => Vec 0 w (V i) t.1 t.2.1 t.2.2) (n := l) (fun i hi => by
      obtain ⟨m, z, nil, hv⟩ := vec_view (hcell i (by omega)).2
      exact ⟨(m, z, nil), hv⟩)
    exact ⟨l, fun i => (f i).1, fun i => (f i).2.1, fun i => (f i).2.2, some a, c, V, rfl, cells_in (fun i hi => (hcell i (by omega)).1) (fun _ _ => rfl), hf⟩

theorem sent_view (h : DataW.trod enc Trym.prog w 0 (fun _ => true) true fuel 35 [v] = some x) : ∃ n L M z nl, Sent 0 w v n L M z nl := by
  rcases open_slice1 Trym.underlying35 cells45 h with ⟨hcs, _⟩ | ⟨a, l, c, mm, n, V, D, Pl, hcs, _, hl, hm, hmm, _, hcell⟩
  · simp at hcs
    subst hcs
    exact ⟨0, fun _ => 0, fun _ _ => 0, fun _ _ _ => 0, fun _ _ => true, none, 0, fun _ => .slice none 0 0, rfl, ⟨(fun x hx => by cases hx), fun _ => rfl⟩, fun k hk => absurd hk (by omega)⟩
  · simp at hcs
    subst hcs
    have hle : l ≤ mm := by rw [hmm]; simpa using hl
    obtain ⟨f, hf⟩ := choose_lt (α := Nat × (Nat → Nat) × (Nat → Nat → Nat) × (Nat → Bool)) (p := fun i t => Msg 0 w (V i) t.1 t.2.1 t.2.2.1 t.2.2.2) (n := l) (fun i hi => by
      obtain ⟨m, M, z, nl, hv⟩ := msg_view (hcell i (by omega)).2
      exact ⟨(m, M, z, nl), hv⟩)
    exact ⟨l, fun i => (f i).1, fun i => (f i).2.1, fun i => (f i).2.2.1, fun i => (f i).2.2.2, some a, c, V, rfl, cells_in (fun i hi => (hcell i (by omega)).1) (fun _ _ => rfl), hf⟩
end

set_option maxHeartbeats 800000 in
set_option maxRecDepth 100000 in
theorem lifted (os : Os) (started : os.Started) (H : Type) (enc : TypeId × Value → H) :
    ReturnsInHanded {} Trym.checked os 5 .any (Rows.fnBySenderTwiceIsPaddingSpec.pre6 enc Trym.prog Trym.f5 Rows.fnBySenderTwiceIsPaddingRow.domain false) (Rows.fnBySenderTwiceIsPaddingSpec.post enc Trym.prog Trym.f5 false true false false) := by
  refine returnsInHanded_of_change (C := Trym.checked) own started (by kernel_rfl) Trym.func5
    (ChangeSpec.witness6 (enc := enc) (C := Trym.checked) false ⟨#[], #[.slice none 0 0], []⟩ 8 (by kernel_rfl) (by kernel_rfl) (by kernel_rfl) (by kernel_rfl)) ?_
  intro W base args ds gs before hval0 hW hcnd _
  have hval : ∀ (j : Nat) t v, Trym.f5.params[j]? = some t → args[j]? = some v → Value.okWide Trym.prog W .any base t v := hval0
  have hW' := hW
  obtain ⟨p, q, hA0, hV, rfl, hfz, hnd⟩ := hW
  have hA : DataW.TrodAll enc Trym.prog W 0 (fun _ => true) true Trym.f5.params.toList args.toList ds p := hA0
  rw [Trym.params5] at hA hval
  obtain ⟨v0, d0, rfl, rfl, h0⟩ := trodAll_one hA
  obtain ⟨rfl, rfl⟩ := trodVars_none hV
  obtain ⟨a0, len0, cap0, rfl⟩ := okWide_slice Trym.underlying35 (hval 0 35 v0 rfl rfl)
  have lt0 : ∀ x ∈ p, x.block < W.heap.size := by obtain ⟨m, hm⟩ := h0; exact DataW.trod_lt m _ _ _ hm
  obtain ⟨n, L, M, z, nl, hs⟩ : ∃ n L M z nl, Sent 0 W (.slice a0 len0 cap0) n L M z nl := by
    obtain ⟨fuel, hf⟩ := h0
    exact sent_view (by simpa [Value.cells] using hf)
  obtain rfl : len0 = n := by obtain ⟨a', c', e⟩ := hs.form; cases e; rfl
  clear hA0 hval0 hcnd
  refine (by_law a0 len0 cap0 0 L M z nl W hs).mono fun e W' ⟨he, bel⟩ => ?_
  subst he
  exact ⟨_, rfl, _, _, _, [], _, [], hW', trodAll_mk1 (shut_bool Trym.underlying4 _), trodAll_mk1 (Below.trod laidOut (by kernel_rfl) (of_decide_eq_true (by kernel_rfl)) h0 bel lt0), rfl, bel.frame _, fun h => by cases h⟩

theorem over : Rows.fnBySenderTwiceIsPaddingRow.holds Trym.pinned (OpenSpec.ofChange Rows.fnBySenderTwiceIsPaddingSpec) :=
  OpenClaim.holds_of_wide 5 Trym.f5 rfl rfl rfl rfl rfl rfl rfl ⟨rfl, rfl, rfl, rfl, rfl⟩ rfl rfl rfl rfl rfl (by kernel_rfl) Trym.func5 (by kernel_rfl)
    (of_decide_eq_true (by kernel_rfl)) (by unfold Func.isWrapper; first | (rw [if_pos (by decide +kernel)]; kernel_rfl) | (rw [if_neg (by decide +kernel)]; exact ⟨rfl, rfl⟩))
    (fun os started H enc _ => lifted os started H enc)

theorem proved : Rows.FnBySenderTwiceIsPaddingSaid := over
end Go.Proofs.Qxb6602315aMods.fnBySenderTwiceIsPadding
