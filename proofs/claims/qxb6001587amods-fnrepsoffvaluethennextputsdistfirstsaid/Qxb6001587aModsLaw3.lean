import Derived.Test.Qxb6001587aModsReps
import Derived.WalkKit
import Derived.WalkSpells
import Derived.WalkLawsBesides
namespace Go.Proofs.Qxb6001587aMods
open Go.RowKit

theorem grown_trans3 {a b c : World} (h : Grown a b) (k : Grown b c) : Grown a c :=
  ⟨World.keptBut_trans h.1 k.1, fun x => (k.2.1 x).trans (h.2.1 x), Nat.le_trans h.2.2 k.2.2⟩

/-- The plain law: 'next' of the value that names a distance puts that distance first. -/
theorem nx0_ov (r0 r1 r2 dist lit : Int) (hd : 0 < dist) : nx0 r0 r1 r2 (ov (cd0 r0 r1 lit) (cd1 r1 r2 lit) (cd2 r0 r2 lit) dist) lit = dist := by
  unfold ov
  split
  · rename_i h
    unfold cd0 at h
    by_cases e : lit = 0
    · rw [if_pos e] at h; simp [nx0, e, h]
    · rw [if_neg e] at h; simp [nx0, e, h]
  · split
    · rename_i _ h
      unfold cd1 at h
      by_cases e : lit = 0
      · rw [if_pos e] at h; simp [nx0, e, h]
      · rw [if_neg e] at h; simp [nx0, e, h]
    · split
      · rename_i _ _ h
        unfold cd2 at h
        by_cases e : lit = 0
        · rw [if_pos e] at h; simp [nx0, e, h]
        · rw [if_neg e] at h; simp [nx0, e, h]
      · unfold nx0
        rw [if_pos (by omega)]; omega

theorem ov_bounds (c0 c1 c2 dist : Int) (hd : 0 < dist) (hd2 : dist ≤ 4294967292) : 0 ≤ ov c0 c1 c2 dist ∧ ov c0 c1 c2 dist < 4294967296 := by
  unfold ov
  split
  · omega
  · split
    · omega
    · split <;> omega

set_option maxHeartbeats 800000 in
theorem law3_walk (r0 r1 r2 dist lit : Int) (w : World) (h0 : 0 ≤ dist) (h1 : dist < 4294967296) (hl : 0 ≤ lit) :
    Calls Trym.prog 3 #[.agg #[.int .u32 r0, .int .u32 r1, .int .u32 r2], .int .u32 dist, .int .u32 lit] w fun e w' => e = .returned (.bool true) ∧ Grown w w' := by
  by_cases hz : dist = 0
  · subst hz
    go_enter Trym.func3, Trym.ntmps3
    go_wp2
    go_ret
    exact ⟨rfl, (Grown.refl _).alloc _ _⟩
  by_cases hb : 4294967292 < dist
  · go_enter Trym.func3, Trym.ntmps3
    go_wp2
    go_ret
    exact ⟨rfl, (Grown.refl _).alloc _ _⟩
  have hd : 0 < dist := by omega
  have hd2 : dist ≤ 4294967292 := by omega
  have hov := ov_bounds (cd0 r0 r1 lit) (cd1 r1 r2 lit) (cd2 r0 r2 lit) dist hd hd2
  have HN : Hid (nx0 r0 r1 r2 (ov (cd0 r0 r1 lit) (cd1 r1 r2 lit) (cd2 r0 r2 lit) dist) lit = dist) := nx0_ov r0 r1 r2 dist lit hd
  have hz' : (dist == 0) = false := by simpa using hz
  go_enter Trym.func3, Trym.ntmps3
  go_wp2_with fail
  refine (door_off _ _ _ _ _ _ hl hd hd2).mono ?_
  rintro e w' ⟨rfl, rfl⟩
  generalize ov (cd0 r0 r1 lit) (cd1 r1 r2 lit) (cd2 r0 r2 lit) dist = o at *
  go_wp2_with fail
  refine (door_next _ _ _ _ _ _ hov.1 hov.2).mono ?_
  rintro e w' ⟨n1, n2, ho, rfl, rfl⟩
  rw [HN.out]
  go_wp2_with fail
  refine (older_any _ _ _ _ _ _ _ ho).mono ?_
  rintro e w' ⟨rfl, hg⟩
  go_wp2
  go_ret
  refine ⟨rfl, grown_trans3 ?_ hg⟩
  repeat (first | exact Grown.refl _ | apply Grown.alloc)
end Go.Proofs.Qxb6001587aMods
