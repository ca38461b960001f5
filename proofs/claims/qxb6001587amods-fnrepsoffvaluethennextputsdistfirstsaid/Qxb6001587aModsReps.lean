import Derived.Test.Qxb6001587aModsProg
import Derived.WalkKit
import Derived.WalkSpells
import Derived.WalkLawsBesides
namespace Go.Proofs.Qxb6001587aMods
open Go.RowKit

/-! The walks of the repeated offsets: next, candidates, offValue, their doors, and the test on the older two. -/

/-- The first offset behind 'next'. -/
def nx0 (r0 r1 r2 off lit : Int) : Int :=
  if 3 < off then off - 3
  else if lit = 0 then (if off = 0 then r0 else if off = 1 then r1 else if off = 2 then r2 else (r0 - 1) % 4294967296)
  else (if off = 1 then r0 else if off = 2 then r1 else if off = 3 then r2 else (r0 - 1) % 4294967296)

/-- The other two: the old three with one left out. -/
def Older (r0 r1 r2 n1 n2 : Int) : Prop := (n1 = r1 ∧ n2 = r2) ∨ (n1 = r0 ∧ n2 = r2) ∨ (n1 = r0 ∧ n2 = r1)

set_option maxHeartbeats 400000 in
theorem older_any (r0 r1 r2 n0 n1 n2 : Int) (w : World) (h : Older r0 r1 r2 n1 n2) :
    Calls Trym.prog 10 #[.agg #[.int .u32 r0, .int .u32 r1, .int .u32 r2], .agg #[.int .u32 n0, .int .u32 n1, .int .u32 n2]] w fun e w' => e = .returned (.bool true) ∧ Grown w w' := by
  rcases h with ⟨rfl, rfl⟩ | ⟨rfl, rfl⟩ | ⟨rfl, rfl⟩
  all_goals
    go_enter Trym.func10, Trym.ntmps10
    go_wp2
  all_goals
    go_ret
    exact ⟨rfl, ((Grown.refl _).alloc _ _).alloc _ _⟩

set_option maxHeartbeats 400000 in
theorem next_hi (r0 r1 r2 off lit : Int) (w : World) (h : 3 < off) (h2 : off < 4294967296) :
    Calls Trym.prog 19 #[.agg #[.int .u32 r0, .int .u32 r1, .int .u32 r2], .int .u32 off, .int .u32 lit] w fun e w' => e = .returned (.agg #[.int .u32 (off - 3), .int .u32 r0, .int .u32 r1]) ∧
      w' = (w.alloc (.cells #[.int .u32 r0, .int .u32 r1, .int .u32 r2] 39)).alloc (.cells #[.int .u32 (off - 3), .int .u32 r0, .int .u32 r1] 39) := by
  go_enter Trym.func19, Trym.ntmps19
  go_wp2
  refine bodyPost_ret (v := .agg #[.int .u32 (off - 3), .int .u32 r0, .int .u32 r1]) (by simp [results, Trym.results19, go_sem]) rfl ⟨rfl, rfl⟩

set_option maxHeartbeats 400000 in
theorem next_00 (r0 r1 r2 : Int) (w : World) :
    Calls Trym.prog 19 #[.agg #[.int .u32 r0, .int .u32 r1, .int .u32 r2], .int .u32 0, .int .u32 0] w fun e w' => e = .returned (.agg #[.int .u32 r0, .int .u32 r1, .int .u32 r2]) ∧
      w' = (w.alloc (.cells #[.int .u32 r0, .int .u32 r1, .int .u32 r2] 39)).alloc (.cells #[.int .u32 r0, .int .u32 r1, .int .u32 r2] 39) := by
  go_enter Trym.func19, Trym.ntmps19
  go_wp2
  refine bodyPost_ret (v := .agg #[.int .u32 r0, .int .u32 r1, .int .u32 r2]) (by simp [results, Trym.results19, go_sem]) rfl ⟨rfl, rfl⟩

set_option maxHeartbeats 400000 in
theorem next_10 (r0 r1 r2 : Int) (w : World) :
    Calls Trym.prog 19 #[.agg #[.int .u32 r0, .int .u32 r1, .int .u32 r2], .int .u32 1, .int .u32 0] w fun e w' => e = .returned (.agg #[.int .u32 r1, .int .u32 r0, .int .u32 r2]) ∧
      w' = (w.alloc (.cells #[.int .u32 r0, .int .u32 r1, .int .u32 r2] 39)).alloc (.cells #[.int .u32 r1, .int .u32 r0, .int .u32 r2] 39) := by
  go_enter Trym.func19, Trym.ntmps19
  go_wp2
  refine bodyPost_ret (v := .agg #[.int .u32 r1, .int .u32 r0, .int .u32 r2]) (by simp [results, Trym.results19, go_sem]) rfl ⟨rfl, rfl⟩

set_option maxHeartbeats 400000 in
theorem next_20 (r0 r1 r2 : Int) (w : World) :
    Calls Trym.prog 19 #[.agg #[.int .u32 r0, .int .u32 r1, .int .u32 r2], .int .u32 2, .int .u32 0] w fun e w' => e = .returned (.agg #[.int .u32 r2, .int .u32 r0, .int .u32 r1]) ∧
      w' = (w.alloc (.cells #[.int .u32 r0, .int .u32 r1, .int .u32 r2] 39)).alloc (.cells #[.int .u32 r2, .int .u32 r0, .int .u32 r1] 39) := by
  go_enter Trym.func19, Trym.ntmps19
  go_wp2
  refine bodyPost_ret (v := .agg #[.int .u32 r2, .int .u32 r0, .int .u32 r1]) (by simp [results, Trym.results19, go_sem]) rfl ⟨rfl, rfl⟩

set_option maxHeartbeats 400000 in
theorem next_30 (r0 r1 r2 : Int) (w : World) :
    Calls Trym.prog 19 #[.agg #[.int .u32 r0, .int .u32 r1, .int .u32 r2], .int .u32 3, .int .u32 0] w fun e w' => e = .returned (.agg #[.int .u32 ((r0 - 1) % 4294967296), .int .u32 r0, .int .u32 r1]) ∧
      w' = (w.alloc (.cells #[.int .u32 r0, .int .u32 r1, .int .u32 r2] 39)).alloc (.cells #[.int .u32 ((r0 - 1) % 4294967296), .int .u32 r0, .int .u32 r1] 39) := by
  go_enter Trym.func19, Trym.ntmps19
  go_wp2
  refine bodyPost_ret (v := .agg #[.int .u32 ((r0 - 1) % 4294967296), .int .u32 r0, .int .u32 r1]) (by simp [results, Trym.results19, go_sem]) rfl ⟨rfl, rfl⟩

set_option maxHeartbeats 400000 in
theorem next_0l (r0 r1 r2 lit : Int) (w : World) (hl : (lit == 0) = false) :
    Calls Trym.prog 19 #[.agg #[.int .u32 r0, .int .u32 r1, .int .u32 r2], .int .u32 0, .int .u32 lit] w fun e w' => e = .returned (.agg #[.int .u32 ((r0 - 1) % 4294967296), .int .u32 r0, .int .u32 r1]) ∧
      w' = (w.alloc (.cells #[.int .u32 r0, .int .u32 r1, .int .u32 r2] 39)).alloc (.cells #[.int .u32 ((r0 - 1) % 4294967296), .int .u32 r0, .int .u32 r1] 39) := by
  go_enter Trym.func19, Trym.ntmps19
  go_wp2
  refine bodyPost_ret (v := .agg #[.int .u32 ((r0 - 1) % 4294967296), .int .u32 r0, .int .u32 r1]) (by simp [results, Trym.results19, go_sem]) rfl ⟨rfl, rfl⟩

set_option maxHeartbeats 400000 in
theorem next_1l (r0 r1 r2 lit : Int) (w : World) (hl : (lit == 0) = false) :
    Calls Trym.prog 19 #[.agg #[.int .u32 r0, .int .u32 r1, .int .u32 r2], .int .u32 1, .int .u32 lit] w fun e w' => e = .returned (.agg #[.int .u32 r0, .int .u32 r1, .int .u32 r2]) ∧
      w' = (w.alloc (.cells #[.int .u32 r0, .int .u32 r1, .int .u32 r2] 39)).alloc (.cells #[.int .u32 r0, .int .u32 r1, .int .u32 r2] 39) := by
  go_enter Trym.func19, Trym.ntmps19
  go_wp2
  refine bodyPost_ret (v := .agg #[.int .u32 r0, .int .u32 r1, .int .u32 r2]) (by simp [results, Trym.results19, go_sem]) rfl ⟨rfl, rfl⟩

set_option maxHeartbeats 400000 in
theorem next_2l (r0 r1 r2 lit : Int) (w : World) (hl : (lit == 0) = false) :
    Calls Trym.prog 19 #[.agg #[.int .u32 r0, .int .u32 r1, .int .u32 r2], .int .u32 2, .int .u32 lit] w fun e w' => e = .returned (.agg #[.int .u32 r1, .int .u32 r0, .int .u32 r2]) ∧
      w' = (w.alloc (.cells #[.int .u32 r0, .int .u32 r1, .int .u32 r2] 39)).alloc (.cells #[.int .u32 r1, .int .u32 r0, .int .u32 r2] 39) := by
  go_enter Trym.func19, Trym.ntmps19
  go_wp2
  refine bodyPost_ret (v := .agg #[.int .u32 r1, .int .u32 r0, .int .u32 r2]) (by simp [results, Trym.results19, go_sem]) rfl ⟨rfl, rfl⟩

set_option maxHeartbeats 400000 in
theorem next_3l (r0 r1 r2 lit : Int) (w : World) (hl : (lit == 0) = false) :
    Calls Trym.prog 19 #[.agg #[.int .u32 r0, .int .u32 r1, .int .u32 r2], .int .u32 3, .int .u32 lit] w fun e w' => e = .returned (.agg #[.int .u32 r2, .int .u32 r0, .int .u32 r1]) ∧
      w' = (w.alloc (.cells #[.int .u32 r0, .int .u32 r1, .int .u32 r2] 39)).alloc (.cells #[.int .u32 r2, .int .u32 r0, .int .u32 r1] 39) := by
  go_enter Trym.func19, Trym.ntmps19
  go_wp2
  refine bodyPost_ret (v := .agg #[.int .u32 r2, .int .u32 r0, .int .u32 r1]) (by simp [results, Trym.results19, go_sem]) rfl ⟨rfl, rfl⟩

/-- 'next', whatever its arguments. -/
theorem next_any (r0 r1 r2 off lit : Int) (w : World) (h0 : 0 ≤ off) (h1 : off < 4294967296) :
    Calls Trym.prog 19 #[.agg #[.int .u32 r0, .int .u32 r1, .int .u32 r2], .int .u32 off, .int .u32 lit] w fun e w' =>
      ∃ n1 n2 : Int, Older r0 r1 r2 n1 n2 ∧ e = .returned (.agg #[.int .u32 (nx0 r0 r1 r2 off lit), .int .u32 n1, .int .u32 n2]) ∧
        w' = (w.alloc (.cells #[.int .u32 r0, .int .u32 r1, .int .u32 r2] 39)).alloc (.cells #[.int .u32 (nx0 r0 r1 r2 off lit), .int .u32 n1, .int .u32 n2] 39) := by
  by_cases h3 : 3 < off
  · refine (next_hi r0 r1 r2 off lit w h3 h1).mono ?_
    rintro e w' ⟨rfl, rfl⟩
    exact ⟨r0, r1, Or.inr (Or.inr ⟨rfl, rfl⟩), by simp [nx0, h3], by simp [nx0, h3]⟩
  · have hc : off = 0 ∨ off = 1 ∨ off = 2 ∨ off = 3 := by omega
    by_cases hl : lit = 0
    · subst hl
      rcases hc with rfl | rfl | rfl | rfl
      · refine (next_00 r0 r1 r2 w).mono ?_
        rintro e w' ⟨rfl, rfl⟩
        exact ⟨r1, r2, Or.inl ⟨rfl, rfl⟩, by simp [nx0], by simp [nx0]⟩
      · refine (next_10 r0 r1 r2 w).mono ?_
        rintro e w' ⟨rfl, rfl⟩
        exact ⟨r0, r2, Or.inr (Or.inl ⟨rfl, rfl⟩), by simp [nx0], by simp [nx0]⟩
      · refine (next_20 r0 r1 r2 w).mono ?_
        rintro e w' ⟨rfl, rfl⟩
        exact ⟨r0, r1, Or.inr (Or.inr ⟨rfl, rfl⟩), by simp [nx0], by simp [nx0]⟩
      · refine (next_30 r0 r1 r2 w).mono ?_
        rintro e w' ⟨rfl, rfl⟩
        exact ⟨r0, r1, Or.inr (Or.inr ⟨rfl, rfl⟩), by simp [nx0], by simp [nx0]⟩
    · have hb : (lit == 0) = false := by simpa using hl
      rcases hc with rfl | rfl | rfl | rfl
      · refine (next_0l r0 r1 r2 lit w hb).mono ?_
        rintro e w' ⟨rfl, rfl⟩
        exact ⟨r0, r1, Or.inr (Or.inr ⟨rfl, rfl⟩), by simp [nx0, hl], by simp [nx0, hl]⟩
      · refine (next_1l r0 r1 r2 lit w hb).mono ?_
        rintro e w' ⟨rfl, rfl⟩
        exact ⟨r1, r2, Or.inl ⟨rfl, rfl⟩, by simp [nx0, hl], by simp [nx0, hl]⟩
      · refine (next_2l r0 r1 r2 lit w hb).mono ?_
        rintro e w' ⟨rfl, rfl⟩
        exact ⟨r0, r2, Or.inr (Or.inl ⟨rfl, rfl⟩), by simp [nx0, hl], by simp [nx0, hl]⟩
      · refine (next_3l r0 r1 r2 lit w hb).mono ?_
        rintro e w' ⟨rfl, rfl⟩
        exact ⟨r0, r1, Or.inr (Or.inr ⟨rfl, rfl⟩), by simp [nx0, hl], by simp [nx0, hl]⟩


set_option maxHeartbeats 400000 in
/-- The door 'ZZRepsNext'. -/
theorem door_next (r0 r1 r2 off lit : Int) (w : World) (h0 : 0 ≤ off) (h1 : off < 4294967296) :
    Calls Trym.prog 9 #[.agg #[.int .u32 r0, .int .u32 r1, .int .u32 r2], .int .u32 off, .int .u32 lit] w fun e w' =>
      ∃ n1 n2 : Int, Older r0 r1 r2 n1 n2 ∧ e = .returned (.agg #[.int .u32 (nx0 r0 r1 r2 off lit), .int .u32 n1, .int .u32 n2]) ∧
        w' = (((w.alloc (.cells #[.int .u32 r0, .int .u32 r1, .int .u32 r2] 23)).alloc (.cells #[.int .u32 (nx0 r0 r1 r2 off lit), .int .u32 n1, .int .u32 n2] 23)).alloc
          (.cells #[.int .u32 r0, .int .u32 r1, .int .u32 r2] 39)).alloc (.cells #[.int .u32 (nx0 r0 r1 r2 off lit), .int .u32 n1, .int .u32 n2] 39) := by
  go_enter Trym.func9, Trym.ntmps9
  go_wp2_with fail
  refine (next_any _ _ _ _ _ _ h0 h1).mono ?_
  rintro e w' ⟨n1, n2, ho, rfl, rfl⟩
  go_wp2
  exact bodyPost_ret (v := .agg #[.int .u32 (nx0 r0 r1 r2 off lit), .int .u32 n1, .int .u32 n2]) (by simp [results, Trym.results9, go_sem]) rfl ⟨n1, n2, ho, rfl, rfl⟩

/-- The distances that 1, 2 and 3 name. -/
def cd0 (r0 r1 lit : Int) : Int := if lit = 0 then r1 else r0
def cd1 (r1 r2 lit : Int) : Int := if lit = 0 then r2 else r1
def cd2 (r0 r2 lit : Int) : Int := if lit = 0 then (r0 - 1) % 4294967296 else r2

set_option maxHeartbeats 400000 in
theorem cands_0 (r0 r1 r2 : Int) (w : World) :
    Calls Trym.prog 22 #[.agg #[.int .u32 r0, .int .u32 r1, .int .u32 r2], .int .u32 0] w fun e w' => e = .returned (.agg #[.int .u32 r1, .int .u32 r2, .int .u32 ((r0 - 1) % 4294967296)]) ∧
      w' = (w.alloc (.cells #[.int .u32 r0, .int .u32 r1, .int .u32 r2] 39)).alloc (.cells #[.int .u32 r1, .int .u32 r2, .int .u32 ((r0 - 1) % 4294967296)] 23) := by
  go_enter Trym.func22, Trym.ntmps22
  go_wp2
  exact bodyPost_ret (v := .agg #[.int .u32 r1, .int .u32 r2, .int .u32 ((r0 - 1) % 4294967296)]) (by simp [results, Trym.results22, go_sem]) rfl ⟨rfl, rfl⟩

set_option maxHeartbeats 400000 in
theorem cands_l (r0 r1 r2 lit : Int) (w : World) (h : 0 < lit) :
    Calls Trym.prog 22 #[.agg #[.int .u32 r0, .int .u32 r1, .int .u32 r2], .int .u32 lit] w fun e w' => e = .returned (.agg #[.int .u32 r0, .int .u32 r1, .int .u32 r2]) ∧
      w' = (w.alloc (.cells #[.int .u32 r0, .int .u32 r1, .int .u32 r2] 39)).alloc (.cells #[.int .u32 r0, .int .u32 r1, .int .u32 r2] 23) := by
  go_enter Trym.func22, Trym.ntmps22
  go_wp2
  exact bodyPost_ret (v := .agg #[.int .u32 r0, .int .u32 r1, .int .u32 r2]) (by simp [results, Trym.results22, go_sem]) rfl ⟨rfl, rfl⟩

theorem cands_any (r0 r1 r2 lit : Int) (w : World) (h : 0 ≤ lit) :
    Calls Trym.prog 22 #[.agg #[.int .u32 r0, .int .u32 r1, .int .u32 r2], .int .u32 lit] w fun e w' => e = .returned (.agg #[.int .u32 (cd0 r0 r1 lit), .int .u32 (cd1 r1 r2 lit), .int .u32 (cd2 r0 r2 lit)]) ∧
      w' = (w.alloc (.cells #[.int .u32 r0, .int .u32 r1, .int .u32 r2] 39)).alloc (.cells #[.int .u32 (cd0 r0 r1 lit), .int .u32 (cd1 r1 r2 lit), .int .u32 (cd2 r0 r2 lit)] 23) := by
  by_cases hl : lit = 0
  · subst hl
    exact cands_0 r0 r1 r2 w
  · refine (cands_l r0 r1 r2 lit w (by omega)).mono ?_
    rintro e w' ⟨rfl, rfl⟩
    simp [cd0, cd1, cd2, hl]

/-- The value that names a distance. -/
def ov (c0 c1 c2 dist : Int) : Int := if dist = c0 then 1 else if dist = c1 then 2 else if dist = c2 then 3 else dist + 3

theorem ov_1 {c0 c1 c2 dist : Int} (h : (dist == c0) = true) : (1 : Int) = ov c0 c1 c2 dist := by
  simp only [beq_iff_eq] at h; simp [ov, h]
theorem ov_2 {c0 c1 c2 dist : Int} (h : (dist == c0) = false) (h1 : (dist == c1) = true) : (2 : Int) = ov c0 c1 c2 dist := by
  simp only [beq_iff_eq] at h1; simp only [beq_eq_false_iff_ne, ne_eq] at h; simp [ov, h, ← h1]
theorem ov_3 {c0 c1 c2 dist : Int} (h : (dist == c0) = false) (h1 : (dist == c1) = false) (h2 : (dist == c2) = true) : (3 : Int) = ov c0 c1 c2 dist := by
  simp only [beq_iff_eq] at h2; simp only [beq_eq_false_iff_ne, ne_eq] at h h1; unfold ov; rw [if_neg h, if_neg h1, if_pos h2]
theorem ov_4 {c0 c1 c2 dist : Int} (h : (dist == c0) = false) (h1 : (dist == c1) = false) (h2 : (dist == c2) = false) : dist + 3 = ov c0 c1 c2 dist := by
  simp only [beq_eq_false_iff_ne, ne_eq] at h h1 h2; simp [ov, h, h1, h2]
theorem ret_int {k : IntKind} {a b : Int} (h : a = b) : Ending.returned (.int k a) = .returned (.int k b) := by rw [h]

set_option maxHeartbeats 800000 in
theorem off_any (r0 r1 r2 dist lit : Int) (w : World) (h : 0 ≤ lit) (hd : 0 < dist) (hd2 : dist ≤ 4294967292) :
    Calls Trym.prog 18 #[.agg #[.int .u32 r0, .int .u32 r1, .int .u32 r2], .int .u32 dist, .int .u32 lit] w fun e w' =>
      e = .returned (.int .u32 (ov (cd0 r0 r1 lit) (cd1 r1 r2 lit) (cd2 r0 r2 lit) dist)) ∧
      w' = (((w.alloc (.cells #[.int .u32 r0, .int .u32 r1, .int .u32 r2] 39)).alloc (.cells #[.int .u32 r0, .int .u32 r1, .int .u32 r2] 39)).alloc
        (.cells #[.int .u32 (cd0 r0 r1 lit), .int .u32 (cd1 r1 r2 lit), .int .u32 (cd2 r0 r2 lit)] 23)).alloc (.cells #[.int .u32 (cd0 r0 r1 lit), .int .u32 (cd1 r1 r2 lit), .int .u32 (cd2 r0 r2 lit)] 23) := by
  go_enter Trym.func18, Trym.ntmps18
  go_wp2_with fail
  refine (cands_any _ _ _ _ _ h).mono ?_
  rintro e w' ⟨rfl, rfl⟩
  go_wp2
  · go_ret
    exact ⟨ret_int (ov_1 (by assumption)), rfl⟩
  · go_ret
    exact ⟨ret_int (ov_2 (by assumption) (by assumption)), rfl⟩
  · go_ret
    exact ⟨ret_int (ov_3 (by assumption) (by assumption) (by assumption)), rfl⟩
  · go_ret
    exact ⟨ret_int (ov_4 (by assumption) (by assumption) (by assumption)), rfl⟩

set_option maxHeartbeats 800000 in
/-- The door 'ZZRepsOffValue'. -/
theorem door_off (r0 r1 r2 dist lit : Int) (w : World) (h : 0 ≤ lit) (hd : 0 < dist) (hd2 : dist ≤ 4294967292) :
    Calls Trym.prog 8 #[.agg #[.int .u32 r0, .int .u32 r1, .int .u32 r2], .int .u32 dist, .int .u32 lit] w fun e w' =>
      e = .returned (.int .u32 (ov (cd0 r0 r1 lit) (cd1 r1 r2 lit) (cd2 r0 r2 lit) dist)) ∧
      w' = ((((w.alloc (.cells #[.int .u32 r0, .int .u32 r1, .int .u32 r2] 23)).alloc (.cells #[.int .u32 r0, .int .u32 r1, .int .u32 r2] 39)).alloc (.cells #[.int .u32 r0, .int .u32 r1, .int .u32 r2] 39)).alloc
        (.cells #[.int .u32 (cd0 r0 r1 lit), .int .u32 (cd1 r1 r2 lit), .int .u32 (cd2 r0 r2 lit)] 23)).alloc (.cells #[.int .u32 (cd0 r0 r1 lit), .int .u32 (cd1 r1 r2 lit), .int .u32 (cd2 r0 r2 lit)] 23) := by
  go_enter Trym.func8, Trym.ntmps8
  go_wp2_with fail
  refine (off_any _ _ _ _ _ _ h hd hd2).mono ?_
  rintro e w' ⟨rfl, rfl⟩
  go_wp2
  go_ret
  exact ⟨rfl, rfl⟩

end Go.Proofs.Qxb6001587aMods
