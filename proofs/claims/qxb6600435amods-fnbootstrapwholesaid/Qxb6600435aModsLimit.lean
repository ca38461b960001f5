import Derived.Test.Qxb6600435aModsProg
import Derived.WalkKit
import Derived.WalkSpells
import Derived.WalkLawsBesides
namespace Go.Proofs.Qxb6600435aMods
open Go.RowKit

/-- The effective limit. -/
def lim (m c : Int) : Int := if m = 0 then c else if c < 0 then m else if m < 0 then c else min m c

theorem ret_int {k : IntKind} {a b : Int} (h : a = b) : Ending.returned (.int k a) = .returned (.int k b) := by rw [h]

set_option maxHeartbeats 400000 in
theorem limit_any (a b c : ByteArray) (m ca : Int) (s : Value) (r : Bool) (w : World) :
    Calls Trym.prog 8 #[.agg #[.string a, .string b, .string c, .int .i64 m, s, .bool r], .int .i64 ca] w fun e w' => e = .returned (.int .i64 (lim m ca)) ∧
      w' = w.alloc (.cells #[.string a, .string b, .string c, .int .i64 m, s, .bool r] 24) := by
  by_cases h0 : m = 0
  · subst h0
    go_enter Trym.func8, Trym.ntmps8
    go_wp2
    go_ret
    exact ⟨rfl, rfl⟩
  have hb : (m == 0) = false := by simpa using h0
  by_cases h1 : ca < 0
  · have e : lim m ca = m := by simp [lim, h0, h1]
    rw [e]
    clear e
    go_enter Trym.func8, Trym.ntmps8
    go_wp2
    go_ret
    exact ⟨rfl, rfl⟩
  by_cases h2 : m < 0
  · have e : lim m ca = ca := by simp [lim, h0, h1, h2]
    rw [e]
    clear e
    go_enter Trym.func8, Trym.ntmps8
    go_wp2
    go_ret
    exact ⟨rfl, rfl⟩
  have e : lim m ca = min m ca := by simp [lim, h0, h1, h2]
  rw [e]
  clear e
  go_enter Trym.func8, Trym.ntmps8
  go_wp2
  all_goals
    go_ret
    exact ⟨ret_int (by omega), rfl⟩

/-- What the second law asks of the limit. -/
theorem lim_facts (m c : Int) : (0 ≤ c → 0 ≤ lim m c ∧ lim m c ≤ c) ∧ (0 < m → 0 ≤ lim m c ∧ lim m c ≤ m) ∧ (c < 0 → m ≤ 0 → lim m c < 0) ∧ (lim m c = 0 ↔ c = 0) := by
  unfold lim
  split
  · omega
  · split
    · omega
    · split <;> omega

set_option maxHeartbeats 1000000 in
theorem bounds_walk (m ca : Int) (w : World) :
    Calls Trym.prog 4 #[.int .i64 m, .int .i64 ca] w fun e w' => e = .returned (.bool true) ∧ Grown w w' := by
  obtain ⟨f1, f2, f3, f4⟩ := lim_facts m ca
  have hk := fun (a b c : ByteArray) (s : Value) (r : Bool) (w : World) => limit_any a b c m ca s r w
  generalize lim m ca = r at f1 f2 f3 f4 hk
  have HK := hk
  clear hk
  rcases (show ca < 0 ∨ ca = 0 ∨ 0 < ca from by omega) with hc | hc | hc
  · have g1 : (ca == 0) = false := by simp; omega
    have g2 : (r == 0) = false := by simp; omega
    by_cases hm : 0 < m
    · obtain ⟨a1, a2⟩ := f2 hm
      clear f1 f2 f3 f4
      have HK' : Hid (∀ (a b c : ByteArray) (s : Value) (q : Bool) (w : World), Calls Trym.prog 8 #[.agg #[.string a, .string b, .string c, .int .i64 m, s, .bool q], .int .i64 ca] w fun e w' => e = .returned (.int .i64 r) ∧ w' = w.alloc (.cells #[.string a, .string b, .string c, .int .i64 m, s, .bool q] 24)) := HK
      clear HK
      go_enter Trym.func4, Trym.ntmps4
      go_wp2_with fail
      refine (HK'.out _ _ _ _ _ _).mono ?_
      rintro e w' ⟨rfl, rfl⟩
      go_wp2
      go_ret
      exact ⟨rfl, by repeat (first | exact Grown.refl _ | apply Grown.drew | apply Grown.alloc)⟩
    · have a1 := f3 hc (by omega)
      clear f1 f2 f3 f4
      have HK' : Hid (∀ (a b c : ByteArray) (s : Value) (q : Bool) (w : World), Calls Trym.prog 8 #[.agg #[.string a, .string b, .string c, .int .i64 m, s, .bool q], .int .i64 ca] w fun e w' => e = .returned (.int .i64 r) ∧ w' = w.alloc (.cells #[.string a, .string b, .string c, .int .i64 m, s, .bool q] 24)) := HK
      clear HK
      go_enter Trym.func4, Trym.ntmps4
      go_wp2_with fail
      refine (HK'.out _ _ _ _ _ _).mono ?_
      rintro e w' ⟨rfl, rfl⟩
      go_wp2
      go_ret
      exact ⟨rfl, by repeat (first | exact Grown.refl _ | apply Grown.drew | apply Grown.alloc)⟩
  · subst hc
    have a0 : r = 0 := f4.2 rfl
    subst a0
    have HK' : Hid (∀ (a b c : ByteArray) (s : Value) (q : Bool) (w : World), Calls Trym.prog 8 #[.agg #[.string a, .string b, .string c, .int .i64 m, s, .bool q], .int .i64 0] w fun e w' => e = .returned (.int .i64 0) ∧ w' = w.alloc (.cells #[.string a, .string b, .string c, .int .i64 m, s, .bool q] 24)) := HK
    clear HK f1 f2 f3 f4
    by_cases hm : 0 < m
    all_goals
      go_enter Trym.func4, Trym.ntmps4
      go_wp2_with fail
      refine (HK'.out _ _ _ _ _ _).mono ?_
      rintro e w' ⟨rfl, rfl⟩
      go_wp2
      go_ret
      exact ⟨rfl, by repeat (first | exact Grown.refl _ | apply Grown.drew | apply Grown.alloc)⟩
  · have g1 : (ca == 0) = false := by simp; omega
    have g2 : (r == 0) = false := by simp; omega
    obtain ⟨b1, b2⟩ := f1 (by omega)
    have HK' : Hid (∀ (a b c : ByteArray) (s : Value) (q : Bool) (w : World), Calls Trym.prog 8 #[.agg #[.string a, .string b, .string c, .int .i64 m, s, .bool q], .int .i64 ca] w fun e w' => e = .returned (.int .i64 r) ∧ w' = w.alloc (.cells #[.string a, .string b, .string c, .int .i64 m, s, .bool q] 24)) := HK
    clear HK
    by_cases hm : 0 < m
    · obtain ⟨a1, a2⟩ := f2 hm
      clear f1 f2 f3 f4
      go_enter Trym.func4, Trym.ntmps4
      go_wp2_with fail
      refine (HK'.out _ _ _ _ _ _).mono ?_
      rintro e w' ⟨rfl, rfl⟩
      go_wp2
      go_ret
      exact ⟨rfl, by repeat (first | exact Grown.refl _ | apply Grown.drew | apply Grown.alloc)⟩
    · clear f1 f2 f3 f4
      go_enter Trym.func4, Trym.ntmps4
      go_wp2_with fail
      refine (HK'.out _ _ _ _ _ _).mono ?_
      rintro e w' ⟨rfl, rfl⟩
      go_wp2
      go_ret
      exact ⟨rfl, by repeat (first | exact Grown.refl _ | apply Grown.drew | apply Grown.alloc)⟩
end Go.Proofs.Qxb6600435aMods
