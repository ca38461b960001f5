import Derived.Test.Qxb6001587aModsRows
import Derived.Test.Qxb6001587aModsLaw5
import Derived.WalkKit
import Derived.ProofKit
import Derived.Laws.IdiomArrays
namespace Go.Proofs.Qxb6001587aMods.fnRepsNextKeepsOlderInOrder
open Go.ChangeShapes Go.WideShapes Go.ChangeAt Go.RowKit

theorem own : ownKnob Trym.prog.godebug = none := by kernel_rfl
theorem cells22 : Trym.prog.cellsOf 22 = 1 := by kernel_rfl
theorem cells23 : Trym.prog.cellsOf 23 = 3 := by kernel_rfl

theorem list3 {α : Type} (l : List α) (h : (⟨l⟩ : Array α).size = 3) : ∃ a b c, l = [a, b, c] := by
  match l, h with
  | [a, b, c], _ => exact ⟨a, b, c, rfl⟩

theorem bounds32 {a : Int} (h : (Lit.int .u32 a).wf = true) : 0 ≤ a ∧ a < 4294967296 := by
  simp [Lit.wf, IntKind.min, IntKind.max, IntKind.signed, IntKind.bits] at h
  omega

set_option maxHeartbeats 800000 in
set_option maxRecDepth 100000 in
theorem lifted (os : Os) (started : os.Started) (H : Type) (enc : TypeId × Value → H) :
    ReturnsInHanded {} Trym.checked os 5 .any (Rows.fnRepsNextKeepsOlderInOrderSpec.pre6 enc Trym.prog Trym.f5 Rows.fnRepsNextKeepsOlderInOrderRow.domain false) (Rows.fnRepsNextKeepsOlderInOrderSpec.post enc Trym.prog Trym.f5 false true false false) := by
  refine returnsInHanded_of_change (C := Trym.checked) own started (by kernel_rfl) Trym.func5
    (ChangeSpec.witness6 (enc := enc) (C := Trym.checked) false ⟨#[], #[.agg #[.int .u32 0, .int .u32 0, .int .u32 0], .int .u32 0, .int .u32 0], []⟩ 8 (by kernel_rfl) (by kernel_rfl) (by kernel_rfl) (by kernel_rfl)) ?_
  intro W base args ds gs before hval0 hW hcnd _
  have hval : ∀ (j : Nat) t v, Trym.f5.params[j]? = some t → args[j]? = some v → Value.okWide Trym.prog W .any base t v := hval0
  have hW' := hW
  obtain ⟨p, q, hA0, hV, rfl, hfz, hnd⟩ := hW
  have hA : DataW.TrodAll enc Trym.prog W 0 (fun _ => true) true Trym.f5.params.toList args.toList ds p := hA0
  rw [Trym.params5] at hA hval
  obtain ⟨v0, v1, v2, d0, d1, d2, p0, p1, p2, rfl, rfl, rfl, h0, h1, h2⟩ := trodAll_three hA
  obtain ⟨rfl, rfl⟩ := trodVars_none hV
  obtain ⟨cs, rfl, hsz, _⟩ : ∃ cs, v0 = .agg cs ∧ cs.size = Trym.prog.cellsOf 23 ∧ Row.okWide Trym.prog W .any base 23 cs := by
    have := hval 0 23 v0 rfl rfl
    simpa [Value.okWide, Trym.underlying23] using this
  rw [cells23] at hsz
  obtain ⟨l⟩ := cs
  obtain ⟨c0, c1, c2, rfl⟩ := list3 l hsz
  obtain ⟨fuel, hf⟩ := h0
  obtain ⟨y0, y1, y2, m, hx, hy0, hy1, hy2⟩ := trod_array3 Trym.underlying23 cells22 hf
  obtain ⟨x0, e0, rfl, w0⟩ := DataW.trod_int Trym.underlying22 hy0
  obtain ⟨x1, e1, rfl, w1⟩ := DataW.trod_int Trym.underlying22 hy1
  obtain ⟨x2, e2, rfl, w2⟩ := DataW.trod_int Trym.underlying22 hy2
  simp at e0 e1 e2
  subst e0 e1 e2
  simp only [Prod.mk.injEq] at hx
  obtain ⟨rfl, rfl⟩ := hx
  obtain ⟨a1, rfl, rfl, rfl, g1⟩ := open_int Trym.underlying22 (hval 1 22 v1 rfl rfl) h1
  obtain ⟨a2, rfl, rfl, rfl, g2⟩ := open_int Trym.underlying22 (hval 2 22 v2 rfl rfl) h2
  clear hA0 hval0 hcnd
  simp only [List.append_nil] at hW'
  refine (law5_walk x0 x1 x2 a1 a2 W (bounds32 g1).1 (bounds32 g1).2).mono fun e W' ⟨he, hg⟩ => ?_
  subst he
  have rdA : ∀ sp : Nat → Bool, DataW.Trod enc Trym.prog W' 0 sp true 23 (.agg #[.int .u32 x0, .int .u32 x1, .int .u32 x2]) (DataW.agg [.lit (.int .u32 x0), .lit (.int .u32 x1), .lit (.int .u32 x2)]) [] :=
    fun sp => ⟨2, by simp [DataW.trod, Value.cells, Trym.underlying22, Trym.underlying23, cells22, cells23, List.range_succ, w0, w1, w2]⟩
  exact ⟨_, rfl, post_of_same (pa := []) (pv := []) hW' (fun _ _ _ => trodAll_mk1 (shut_bool Trym.underlying4 _)) (fun sp _ => trodAll_mk3 (rdA sp) (shut_int Trym.underlying22 g1) (shut_int Trym.underlying22 g2)) (fun _ _ => rfl) rfl
    (hg.frame _) hg.2.1 (ok_one (by kernel_rfl) rfl (okWide_bool_mk Trym.underlying4 _))⟩

theorem over : Rows.fnRepsNextKeepsOlderInOrderRow.holds Trym.pinned (OpenSpec.ofChange Rows.fnRepsNextKeepsOlderInOrderSpec) :=
  OpenClaim.holds_of_wide 5 Trym.f5 rfl rfl rfl rfl rfl rfl rfl ⟨rfl, rfl, rfl, rfl, rfl⟩ rfl rfl rfl rfl rfl (by kernel_rfl) Trym.func5 (by kernel_rfl)
    (of_decide_eq_true (by kernel_rfl)) (by unfold Func.isWrapper; first | (rw [if_pos (by decide +kernel)]; kernel_rfl) | (rw [if_neg (by decide +kernel)]; exact ⟨rfl, rfl⟩))
    (fun os started H enc _ => lifted os started H enc)

theorem proved : Rows.FnRepsNextKeepsOlderInOrderSaid :=
  over
end Go.Proofs.Qxb6001587aMods.fnRepsNextKeepsOlderInOrder
