import Derived.Test.Qxb6600435aModsLimit
import Derived.WalkKit
import Derived.WalkSpells
import Derived.WalkLawsBesides
namespace Go.Proofs.Qxb6600435aMods
open Go.RowKit

set_option maxHeartbeats 400000 in
theorem model_zn (ca : Int) (w : World) (hc : ca < 0) :
    Calls Trym.prog 3 #[.int .i64 0, .int .i64 ca] w fun e w' => e = .returned (.bool true) ∧ Grown w w' := by
  have HK : Hid (lim 0 ca = ca) := by show lim 0 ca = ca; unfold lim; split <;> (try split) <;> (try split) <;> omega
  go_enter Trym.func3, Trym.ntmps3
  go_wp2_with fail
  refine (limit_any _ _ _ _ _ _ _ _).mono ?_
  rintro e w' ⟨rfl, rfl⟩
  rw [HK.out]
  go_wp2
  go_ret
  exact ⟨rfl, by repeat (first | exact Grown.refl _ | apply Grown.drew | apply Grown.alloc)⟩

set_option maxHeartbeats 400000 in
theorem model_zp (ca : Int) (w : World) (hc : 0 ≤ ca) (hc2 : ca ≤ 9223372036854775807) :
    Calls Trym.prog 3 #[.int .i64 0, .int .i64 ca] w fun e w' => e = .returned (.bool true) ∧ Grown w w' := by
  have HK : Hid (lim 0 ca = ca) := by show lim 0 ca = ca; unfold lim; split <;> (try split) <;> (try split) <;> omega
  go_enter Trym.func3, Trym.ntmps3
  go_wp2_with fail
  refine (limit_any _ _ _ _ _ _ _ _).mono ?_
  rintro e w' ⟨rfl, rfl⟩
  rw [HK.out]
  go_wp2
  go_ret
  exact ⟨rfl, by repeat (first | exact Grown.refl _ | apply Grown.drew | apply Grown.alloc)⟩

set_option maxHeartbeats 400000 in
theorem model_nn (m ca : Int) (w : World) (hm : m < 0) (hc : ca < 0) :
    Calls Trym.prog 3 #[.int .i64 m, .int .i64 ca] w fun e w' => e = .returned (.bool true) ∧ Grown w w' := by
  have HK : Hid (lim m ca = m) := by show lim m ca = m; unfold lim; split <;> (try split) <;> (try split) <;> omega
  go_enter Trym.func3, Trym.ntmps3
  go_wp2_with fail
  refine (limit_any _ _ _ _ _ _ _ _).mono ?_
  rintro e w' ⟨rfl, rfl⟩
  rw [HK.out]
  go_wp2
  go_ret
  exact ⟨rfl, by repeat (first | exact Grown.refl _ | apply Grown.drew | apply Grown.alloc)⟩

set_option maxHeartbeats 400000 in
theorem model_np (m ca : Int) (w : World) (hm : m < 0) (hc : 0 ≤ ca) (hc2 : ca ≤ 9223372036854775807) :
    Calls Trym.prog 3 #[.int .i64 m, .int .i64 ca] w fun e w' => e = .returned (.bool true) ∧ Grown w w' := by
  have HK : Hid (lim m ca = ca) := by show lim m ca = ca; unfold lim; split <;> (try split) <;> (try split) <;> omega
  go_enter Trym.func3, Trym.ntmps3
  go_wp2_with fail
  refine (limit_any _ _ _ _ _ _ _ _).mono ?_
  rintro e w' ⟨rfl, rfl⟩
  rw [HK.out]
  go_wp2
  go_ret
  exact ⟨rfl, by repeat (first | exact Grown.refl _ | apply Grown.drew | apply Grown.alloc)⟩

set_option maxHeartbeats 400000 in
theorem model_pn (m ca : Int) (w : World) (hm : 0 < m) (hm2 : m ≤ 9223372036854775807) (hc : ca < 0) :
    Calls Trym.prog 3 #[.int .i64 m, .int .i64 ca] w fun e w' => e = .returned (.bool true) ∧ Grown w w' := by
  have HK : Hid (lim m ca = m) := by show lim m ca = m; unfold lim; split <;> (try split) <;> (try split) <;> omega
  go_enter Trym.func3, Trym.ntmps3
  go_wp2_with fail
  refine (limit_any _ _ _ _ _ _ _ _).mono ?_
  rintro e w' ⟨rfl, rfl⟩
  rw [HK.out]
  go_wp2
  go_ret
  exact ⟨rfl, by repeat (first | exact Grown.refl _ | apply Grown.drew | apply Grown.alloc)⟩

set_option maxHeartbeats 400000 in
theorem model_lt (m ca : Int) (w : World) (hm : 0 < m) (hm2 : m ≤ 9223372036854775807) (hc : 0 ≤ ca) (hc2 : ca ≤ 9223372036854775807) (h : m < ca) :
    Calls Trym.prog 3 #[.int .i64 m, .int .i64 ca] w fun e w' => e = .returned (.bool true) ∧ Grown w w' := by
  have HK : Hid (lim m ca = m) := by show lim m ca = m; unfold lim; split <;> (try split) <;> (try split) <;> omega
  go_enter Trym.func3, Trym.ntmps3
  go_wp2_with fail
  refine (limit_any _ _ _ _ _ _ _ _).mono ?_
  rintro e w' ⟨rfl, rfl⟩
  rw [HK.out]
  go_wp2
  go_ret
  exact ⟨rfl, by repeat (first | exact Grown.refl _ | apply Grown.drew | apply Grown.alloc)⟩

set_option maxHeartbeats 400000 in
theorem model_eq (m : Int) (w : World) (hm : 0 < m) (hm2 : m ≤ 9223372036854775807) :
    Calls Trym.prog 3 #[.int .i64 m, .int .i64 m] w fun e w' => e = .returned (.bool true) ∧ Grown w w' := by
  have HK : Hid (lim m m = m) := by show lim m m = m; unfold lim; split <;> (try split) <;> (try split) <;> omega
  go_enter Trym.func3, Trym.ntmps3
  go_wp2_with fail
  refine (limit_any _ _ _ _ _ _ _ _).mono ?_
  rintro e w' ⟨rfl, rfl⟩
  rw [HK.out]
  go_wp2
  go_ret
  exact ⟨rfl, by repeat (first | exact Grown.refl _ | apply Grown.drew | apply Grown.alloc)⟩

set_option maxHeartbeats 400000 in
theorem model_gt (m ca : Int) (w : World) (hm : 0 < m) (hm2 : m ≤ 9223372036854775807) (hc : 0 ≤ ca) (hc2 : ca ≤ 9223372036854775807) (h : ca < m) :
    Calls Trym.prog 3 #[.int .i64 m, .int .i64 ca] w fun e w' => e = .returned (.bool true) ∧ Grown w w' := by
  have HK : Hid (lim m ca = ca) := by show lim m ca = ca; unfold lim; split <;> (try split) <;> (try split) <;> omega
  go_enter Trym.func3, Trym.ntmps3
  go_wp2_with fail
  refine (limit_any _ _ _ _ _ _ _ _).mono ?_
  rintro e w' ⟨rfl, rfl⟩
  rw [HK.out]
  go_wp2
  go_ret
  exact ⟨rfl, by repeat (first | exact Grown.refl _ | apply Grown.drew | apply Grown.alloc)⟩

theorem model_walk (m ca : Int) (w : World) (hm2 : m ≤ 9223372036854775807) (hc2 : ca ≤ 9223372036854775807) :
    Calls Trym.prog 3 #[.int .i64 m, .int .i64 ca] w fun e w' => e = .returned (.bool true) ∧ Grown w w' := by
  rcases (show m < 0 ∨ m = 0 ∨ 0 < m from by omega) with hm | hm | hm
  · by_cases hc : ca < 0
    · exact model_nn m ca w hm hc
    · exact model_np m ca w hm (by omega) hc2
  · subst hm
    by_cases hc : ca < 0
    · exact model_zn ca w hc
    · exact model_zp ca w (by omega) hc2
  · by_cases hc : ca < 0
    · exact model_pn m ca w hm hm2 hc
    · rcases (show m < ca ∨ m = ca ∨ ca < m from by omega) with h | h | h
      · exact model_lt m ca w hm hm2 (by omega) hc2 h
      · subst h
        exact model_eq m w hm hm2
      · exact model_gt m ca w hm hm2 (by omega) hc2 h

end Go.Proofs.Qxb6600435aMods
