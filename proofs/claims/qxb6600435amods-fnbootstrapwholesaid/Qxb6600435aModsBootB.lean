import Derived.Test.Qxb6600435aModsBootA
import Derived.WalkKit
import Derived.WalkSpells
import Derived.WalkLawsBesides
import Derived.Deep.RegionLawGrows
import Derived.Laws.AppendOwn
namespace Go.Proofs.Qxb6600435aMods
open Go.RowKit

/-- A row of attributes: so many names, values, and no mark for the certificate. -/
def Row3 (w : World) (g n : Nat) (nm vl : Nat → ByteArray) : Prop :=
  ∀ i, i < n → w.cell? ⟨g, 3 * i, none⟩ = some (.string (nm i)) ∧ w.cell? ⟨g, 3 * i + 1, none⟩ = some (.string (vl i)) ∧ w.cell? ⟨g, 3 * i + 2, none⟩ = some (.bool false)

theorem Row3.below {w w' : World} {B g n : Nat} {nm vl : Nat → ByteArray} (h : Row3 w g n nm vl) (hb : Below B w w') (hg : g < B) : Row3 w' g n nm vl := by
  intro i hi
  obtain ⟨a, b, c⟩ := h i hi
  exact ⟨(hb.cell (p := ⟨g, _, none⟩) hg).trans a, (hb.cell (p := ⟨g, _, none⟩) hg).trans b, (hb.cell (p := ⟨g, _, none⟩) hg).trans c⟩

def client : ByteArray := ⟨#[99, 108, 105, 101, 110, 116]⟩
def nought : ByteArray := ⟨#[]⟩

set_option maxHeartbeats 400000 in
theorem boot_any (id : ByteArray) (w : World) :
    Calls Trym.prog 12 #[.string id] w fun e w' => ∃ g, e = .returned (.agg #[.string id, .string client, .string nought, .int .i64 0, .slice (some ⟨g, 0, none⟩) 7 7, .bool false]) ∧
      Row3 w' g 7 (fun i => nameB (3 + i)) (fun i => valB id (3 + i)) ∧ g < w'.heap.size ∧ Below w.heap.size w w' := by
  go_enter Trym.func12, Trym.ntmps12
  go_wp2
  refine bodyPost_ret (v := .agg #[.string id, .string client, .string nought, .int .i64 0, .slice (some ⟨w.heap.size + 1, 0, none⟩) 7 7, .bool false]) (by simp [results, Trym.results12, go_sem]; exact ⟨rfl, rfl⟩) rfl ⟨w.heap.size + 1, rfl, ?_, by simp, ?_⟩
  · intro i hi
    rcases (show i = 0 ∨ i = 1 ∨ i = 2 ∨ i = 3 ∨ i = 4 ∨ i = 5 ∨ i = 6 from by omega) with rfl | rfl | rfl | rfl | rfl | rfl | rfl
    all_goals
      refine ⟨?_, ?_, ?_⟩ <;> (go_simp; try rfl)
  · exact ((Below.refl _ _).alloc (Nat.le_refl _) _).alloc (by simp) _

/-- The call of 'automatic' as one step of a region that draws. -/
theorem step_auto {ops : Array Oper} {o : Oper} {a : Act} {w : World} {K : Act → World → Prop} {Q : Exit → Act → World → Prop} {E : Prop}
    (hg : o.guard = none) (hop : o.op = Op.call { callee := Callee.value (Operand.func 17), args := #[.tmp 8], argTypes := #[24] }) (hd : o.dst = some 9)
    (v : Value) (hx : a.eval (.tmp 8) = v) (hc : Calls Trym.prog 17 #[v] w fun e w' => ∃ r, e = .returned r ∧ K (a.put (some 9) r) w') :
    if Region.wanted o (yielded ops a.tmps) = true then Oper.wp Trym.prog o a w K Q else E := by
  have hw : Region.wanted o (yielded ops a.tmps) = true := by simp [Region.wanted, hg]
  rw [if_pos hw]
  unfold Oper.wp
  simp [execOp, hop, resolve, invoke, hd, go_sem] at hx hc ⊢
  rw [hx]
  refine hc.mono ?_
  rintro e w' ⟨r, rfl, hk⟩
  exact hk

set_option maxHeartbeats 400000 in
theorem auto_any (a : ByteArray) (s : Value) (w : World) :
    Calls Trym.prog 17 #[.agg #[.string a, .string client, .string nought, .int .i64 0, s, .bool false]] w fun e w' => e = .returned (.slice (some ⟨w.heap.size + 1, 0, none⟩) 3 3) ∧
      w' = (w.alloc (.cells #[.string a, .string client, .string nought, .int .i64 0, s, .bool false] 24)).alloc (.cells #[.string (nameB 0), .string a, .bool false, .string (nameB 1), .string client, .bool false, .string (nameB 2), .string nought, .bool false] 32) := by
  go_enter Trym.func17, Trym.ntmps17
  go_wp2
  go_ret
  exact ⟨rfl, rfl⟩
end Go.Proofs.Qxb6600435aMods
