import Derived.Test.Qxb6001587aModsReps
import Derived.WalkKit
import Derived.WalkSpells
import Derived.WalkLawsBesides
namespace Go.Proofs.Qxb6001587aMods
open Go.RowKit

theorem grown_trans {a b c : World} (h : Grown a b) (k : Grown b c) : Grown a c :=
  ⟨World.keptBut_trans h.1 k.1, fun x => (k.2.1 x).trans (h.2.1 x), Nat.le_trans h.2.2 k.2.2⟩

set_option maxHeartbeats 800000 in
theorem law5_walk (r0 r1 r2 off lit : Int) (w : World) (h0 : 0 ≤ off) (h1 : off < 4294967296) :
    Calls Trym.prog 5 #[.agg #[.int .u32 r0, .int .u32 r1, .int .u32 r2], .int .u32 off, .int .u32 lit] w fun e w' => e = .returned (.bool true) ∧ Grown w w' := by
  go_enter Trym.func5, Trym.ntmps5
  go_wp2_with fail
  refine (door_next _ _ _ _ _ _ h0 h1).mono ?_
  rintro e w' ⟨n1, n2, ho, rfl, rfl⟩
  go_wp2_with fail
  refine (older_any _ _ _ _ _ _ _ ho).mono ?_
  rintro e w' ⟨rfl, hg⟩
  go_wp2
  go_ret
  refine ⟨rfl, grown_trans ?_ hg⟩
  repeat (first | exact Grown.refl _ | apply Grown.alloc)
end Go.Proofs.Qxb6001587aMods
