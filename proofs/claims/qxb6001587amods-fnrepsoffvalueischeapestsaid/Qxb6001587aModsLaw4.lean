import Derived.Test.Qxb6001587aModsReps
import Derived.WalkKit
import Derived.WalkSpells
import Derived.WalkLawsBesides
namespace Go.Proofs.Qxb6001587aMods
open Go.RowKit

theorem grown_trans4 {a b c : World} (h : Grown a b) (k : Grown b c) : Grown a c :=
  ⟨World.keptBut_trans h.1 k.1, fun x => (k.2.1 x).trans (h.2.1 x), Nat.le_trans h.2.2 k.2.2⟩

theorem cell5 {wr : World} (a b c d e : Obj) {p : Addr} {v : Value} (hp : p.block < wr.heap.size) (h : wr.cell? p = some v) : (((((wr.alloc a).alloc b).alloc c).alloc d).alloc e).cell? p = some v := by
  have hb : Below wr.heap.size wr (((((wr.alloc a).alloc b).alloc c).alloc d).alloc e) :=
    (((((Below.refl _ _).alloc (Nat.le_refl _) a).alloc (by simp) b).alloc (by simp; omega) c).alloc (by simp; omega) d).alloc (by simp; omega) e
  rw [hb.cell hp, h]

/-- The plain law: no smaller value names the distance. -/
theorem nx0_ne (r0 r1 r2 dist lit k : Int) (h1 : 1 ≤ k) (h3 : k ≤ 3) (hk : k < ov (cd0 r0 r1 lit) (cd1 r1 r2 lit) (cd2 r0 r2 lit) dist) : (nx0 r0 r1 r2 k lit == dist) = false := by
  have hc : k = 1 ∨ k = 2 ∨ k = 3 := by omega
  have key : ¬ nx0 r0 r1 r2 k lit = dist := by
    intro e
    unfold ov at hk
    rcases hc with rfl | rfl | rfl
    · have : dist = cd0 r0 r1 lit := by rw [← e]; unfold nx0 cd0; by_cases hl : lit = 0 <;> simp [hl]
      rw [if_pos this] at hk; omega
    · have : dist = cd1 r1 r2 lit := by rw [← e]; unfold nx0 cd1; by_cases hl : lit = 0 <;> simp [hl]
      split at hk <;> omega
    · have : dist = cd2 r0 r2 lit := by rw [← e]; unfold nx0 cd2; by_cases hl : lit = 0 <;> simp [hl]
      split at hk
      · omega
      · split at hk <;> omega
  simpa using key

theorem ov_range (c0 c1 c2 dist : Int) (hd : 0 < dist) : 1 ≤ ov c0 c1 c2 dist ∧ ov c0 c1 c2 dist ≤ dist + 3 := by
  unfold ov
  split
  · omega
  · split
    · omega
    · split <;> omega

set_option maxHeartbeats 1600000 in
theorem law4_walk (r0 r1 r2 dist lit : Int) (w : World) (h0 : 0 ≤ dist) (h1 : dist < 4294967296) (hl : 0 ≤ lit) :
    Calls Trym.prog 4 #[.agg #[.int .u32 r0, .int .u32 r1, .int .u32 r2], .int .u32 dist, .int .u32 lit] w fun e w' => e = .returned (.bool true) ∧ Grown w w' := by
  by_cases hz : dist = 0
  · subst hz
    go_enter Trym.func4, Trym.ntmps4
    go_wp2
    go_ret
    exact ⟨rfl, (Grown.refl _).alloc _ _⟩
  by_cases hb : 4294967292 < dist
  · go_enter Trym.func4, Trym.ntmps4
    go_wp2
    go_ret
    exact ⟨rfl, (Grown.refl _).alloc _ _⟩
  have hd : 0 < dist := by omega
  have hd2 : dist ≤ 4294967292 := by omega
  have hov := ov_range (cd0 r0 r1 lit) (cd1 r1 r2 lit) (cd2 r0 r2 lit) dist hd
  have HN : Hid (∀ k : Int, 1 ≤ k → k ≤ 3 → k < ov (cd0 r0 r1 lit) (cd1 r1 r2 lit) (cd2 r0 r2 lit) dist → (nx0 r0 r1 r2 k lit == dist) = false) := fun k => nx0_ne r0 r1 r2 dist lit k
  have hz' : (dist == 0) = false := by simpa using hz
  go_enter Trym.func4, Trym.ntmps4
  go_wp2_with fail
  refine (door_off _ _ _ _ _ _ hl hd hd2).mono ?_
  rintro e w' ⟨rfl, rfl⟩
  generalize ov (cd0 r0 r1 lit) (cd1 r1 r2 lit) (cd2 r0 r2 lit) dist = o at *
  have ho1 := hov.1
  have ho2 := hov.2
  have ho0 : (o == 0) = false := by simp; omega
  go_wp2
  go_loopw [8] (fun v wr => ∃ k : Int, 1 ≤ k ∧ k ≤ 4 ∧ v = .int .u32 k ∧ w.heap.size < wr.heap.size ∧ wr.cell? ⟨w.heap.size, 0, none⟩ = some (.int .u32 r0) ∧ wr.cell? ⟨w.heap.size, 1, none⟩ = some (.int .u32 r1) ∧ wr.cell? ⟨w.heap.size, 2, none⟩ = some (.int .u32 r2) ∧ Grown w wr)
    (fun v _ => (4 - intOf v).toNat)
  case atStart =>
    refine ⟨1, by omega, by omega, rfl, by simp; omega, by go_simp, by go_simp, by go_simp, ?_⟩
    repeat (first | exact Grown.refl _ | apply Grown.alloc)
  case round =>
    obtain ⟨k, hk1, hk4, rfl, hsz, hc0, hc1, hc2, hg⟩ := hrel
    by_cases hk3 : k ≤ 3
    · by_cases hko : k < o
      · have hne := HN.out k hk1 hk3 hko
        go_wp2_with fail
        refine (door_next _ _ _ _ _ _ (by omega) (by omega)).mono ?_
        rintro e w' ⟨n1, n2, _, rfl, rfl⟩
        go_wp2
        go_roundw
        case rel =>
          refine ⟨k + 1, by omega, by omega, by go_num, by simp; omega, cell5 _ _ _ _ _ hsz hc0, cell5 _ _ _ _ _ hsz hc1, cell5 _ _ _ _ _ hsz hc2, ?_⟩
          refine grown_trans4 hg ?_
          repeat (first | exact Grown.refl _ | apply Grown.alloc)
        case measure => simp [intOf]; omega
      · go_wp2
        go_ret
        exact ⟨rfl, hg⟩
    · go_wp2
      go_ret
      exact ⟨rfl, hg⟩
end Go.Proofs.Qxb6001587aMods
