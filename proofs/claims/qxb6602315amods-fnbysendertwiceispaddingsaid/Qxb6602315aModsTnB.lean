import Derived.Test.Qxb6602315aModsTnA
import Derived.WalkKit
import Derived.WalkSpells
import Derived.WalkLawsBesides
import Derived.Deep.OwnRows
namespace Go.Proofs.Qxb6602315aMods
open Go.RowKit

/-- A store of a float. -/
theorem run_store_float (P : Program) (w : World) (a : Addr) (k : FloatKind) (b : Nat) (m : Mode) : (store a (.float k b) m).run P w = stored P w a (.float k b) m := run_store P w a _ m rfl
attribute [local go_sem] run_store_float

theorem info50 : (Trym.prog.info? 50).map (fun i => (i.zero, i.size, i.bytes)) = some (some (.float .f64 0), 1, 8) := by kernel_rfl

/-- A row of floats, by their bits. -/
def FRow (w : World) (g n : Nat) (z : Nat → Nat) : Prop := w.rowIs g 50 n (fun i => .float .f64 (z i))

theorem FRow.below {w w' : World} {g n B : Nat} {z : Nat → Nat} (h : FRow w g n z) (hb : Below B w w') (hg : g < B) : FRow w' g n z :=
  World.rowIs.of_block h (hb.block g hg)

theorem FRow.cells {w : World} {g n : Nat} {z : Nat → Nat} (h : FRow w g n z) : FCells w ⟨g, 0, none⟩ n z := by
  intro i hi
  have e : (⟨g, 0, none⟩ : Addr).add i = ⟨g, i, none⟩ := by
    by_cases h0 : i = 0
    · subst h0; simp [Addr.add]
    · simp [Addr.add, h0]
  rw [e]
  exact World.rowIs.cell h hi

theorem FRow.congr {w : World} {g n : Nat} {z y : Nat → Nat} (h : FRow w g n z) (e : ∀ i, i < n → z i = y i) : FRow w g n y :=
  World.rowIs.congr h fun i hi => by rw [e i hi]

theorem FRow.set {w : World} {g n : Nat} {z : Nat → Nat} (h : FRow w g n z) (i b : Nat) : FRow (w.setCell ⟨g, i, none⟩ (.float .f64 b)) g n (fun j => if j = i then b else z j) :=
  (World.rowIs.set h i (.float .f64 b)).congr fun j _ => by by_cases e : j = i <;> simp [e]

theorem FRow.made (w : World) (n : Nat) : FRow (w.alloc (.cells (madeCells #[.float .f64 0] n) 50)) w.heap.size n (fun _ => 0) := World.rowIs_made w _ n 50

set_option maxHeartbeats 1000000 in
theorem clone_some (x : Addr) (len cap : Nat) (z : Nat → Nat) (w : World) (hl : len ≤ 65536) (hx : 0 < len → x.block < w.heap.size) (hc : FCells w x len z) :
    Calls Trym.prog 24 #[.slice (some x) len cap] w fun e w' => e = .returned (.slice (some ⟨w.heap.size, 0, none⟩) len len) ∧ FRow w' w.heap.size len z ∧ Below w.heap.size w w' := by
  have HC : Hid (FCells w x len z) := hc
  clear hc
  have hmk := run_make_row' (P := Trym.prog) 43 50 (.float .f64 0) 8 Trym.underlying43 info50 rfl .i64 .i64 len (by omega) (by omega)
  have hnil := fun (w : World) (a : Option Addr) (l c : Nat) => Lib.run_eql_slice_nil (P := Trym.prog) w 43 50 a l c 0 0 Trym.underlying43
  go_enter Trym.func24, Trym.ntmps24
  go_wp2
  go_loopw [4] (fun i wr => ∃ k : Nat, k ≤ len ∧ i = .int .i64 k ∧ FRow wr w.heap.size len (fun j => if j < k then z j else 0) ∧ Below w.heap.size w wr) (fun i _ => len - (intOf i).toNat)
  case atStart => exact ⟨0, by omega, rfl, (FRow.made w len).congr fun j _ => by simp, (Below.refl _ _).alloc (Nat.le_refl _) _⟩
  case round =>
    obtain ⟨k, hk, rfl, hrow, hb⟩ := hrel
    have HR : Hid (FRow wr w.heap.size len (fun j => if j < k then z j else 0)) := hrow
    clear hmk hnil
    by_cases hlt : k < len
    · have hcx := HC.out.below hb hx k hlt
      obtain ⟨y0, hc0⟩ : ∃ y0, wr.cell? ⟨w.heap.size, k, none⟩ = some (.float .f64 y0) := ⟨_, World.rowIs.cell hrow hlt⟩
      have hf0 := World.rowIs.frozen hrow k
      clear hrow
      go_wp2
      go_roundw
      case rel =>
        refine ⟨k + 1, by omega, by go_num, (HR.out.set k (z k)).congr fun j hj => ?_, hb.setCell (Nat.le_refl _) _⟩
        by_cases e : j = k
        · subst e; simp
        · by_cases e2 : j < k
          · rw [if_neg e, if_pos e2, if_pos (by omega)]
          · rw [if_neg e, if_neg e2, if_neg (by omega)]
      case measure => simp [intOf]; omega
    · clear hrow
      go_wp2
      go_ret
      exact ⟨rfl, HR.out.congr fun j hj => by rw [if_pos (by omega)], hb⟩

set_option maxHeartbeats 1000000 in
theorem clone_nil (w : World) :
    Calls Trym.prog 24 #[.slice none 0 0] w fun e w' => e = .returned (.slice none 0 0) ∧ w = w' := by
  have hnil := fun (w : World) (a : Option Addr) (l c : Nat) => Lib.run_eql_slice_nil (P := Trym.prog) w 43 50 a l c 0 0 Trym.underlying43
  go_enter Trym.func24, Trym.ntmps24
  go_wp2
  go_ret
  exact ⟨rfl, rfl⟩
end Go.Proofs.Qxb6602315aMods
