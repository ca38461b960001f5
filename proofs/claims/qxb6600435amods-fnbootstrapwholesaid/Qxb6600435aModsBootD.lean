import Derived.Test.Qxb6600435aModsBootC
import Derived.WalkKit
import Derived.WalkSpells
import Derived.WalkLawsBesides
import Derived.Deep.RegionLawGrows
namespace Go.Proofs.Qxb6600435aMods
open Go.RowKit

/-- The three automatic attributes, as the new row holds them. -/
theorem row_auto (id : ByteArray) (s : Value) (W : World) (gg : Nat) (hgg : gg = W.heap.size + 1) : Row3 ((W.alloc (.cells #[.string id, .string client, .string nought, .int .i64 0, s, .bool false] 24)).alloc (.cells #[.string (nameB 0), .string id, .bool false, .string (nameB 1), .string client, .bool false, .string (nameB 2), .string nought, .bool false] 32)).drew gg 3 nameB (valB id) := by
  subst hgg
  intro i hi
  rcases (show i = 0 ∨ i = 1 ∨ i = 2 from by omega) with rfl | rfl | rfl
  all_goals
    refine ⟨?_, ?_, ?_⟩ <;> (go_simp; try rfl)

theorem below3 (w : World) (a b c : Obj) : Below w.heap.size w (((w.alloc a).alloc b).alloc c).drew :=
  ((((Below.refl _ _).alloc (Nat.le_refl _) a).alloc (by simp) b).alloc (by simp; omega) c).drew

theorem row_past {w : World} {g n : Nat} {nm vl : Nat → ByteArray} (a b c : Obj) (h : Row3 w g n nm vl) (hg : g < w.heap.size) : Row3 (((w.alloc a).alloc b).alloc c).drew g n nm vl :=
  h.below (below3 w a b c) hg

set_option maxHeartbeats 1000000 in
theorem attr_any (id n : ByteArray) (K g : Nat) (w : World) (h : Idx n K) (hr : Row3 w g 7 (fun i => nameB (3 + i)) (fun i => valB id (3 + i))) (hg : g < w.heap.size) :
    Calls Trym.prog 15 #[.agg #[.string id, .string client, .string nought, .int .i64 0, .slice (some ⟨g, 0, none⟩) 7 7, .bool false], .string n] w fun e w' =>
      e = .returned (.tuple #[.string (valB id K), .bool (decide (K < 10))]) ∧ Below w.heap.size w w' := by
  have HI : Hid (Idx n K) := h
  have HR : Hid (Row3 w g 7 (fun i => nameB (3 + i)) (fun i => valB id (3 + i))) := hr
  clear h hr
  go_enter Trym.func15, Trym.ntmps15
  go_wp2
  go_region_law (first | (refine step_app _ id g _ rfl rfl rfl (by rfl) (by rfl) (row_auto id _ _ _ (by simp)) (row_past _ _ _ HR.out hg) ?_; intro g' cap w' hrow hlt hbel) | (refine step_auto rfl rfl rfl _ (by rfl) ?_; refine (auto_any _ _ _).mono ?_; rintro e w' ⟨rfl, rfl⟩; refine ⟨_, rfl, ?_⟩))
  all_goals
    have HB : Below w.heap.size w w' := (below3 w _ _ _).trans (hbel.mono (by simp; omega))
    have HW : Hid (Row3 w' g' 10 nameB (valB id)) := hrow
    clear hrow hbel
    go_wp2
  all_goals
    simp only [List.getElem_toArray, List.getElem_cons_succ, List.getElem_cons_zero, Act.put, List.setIfInBounds_toArray, List.set_cons_succ, List.set_cons_zero]
    go_loopw [14] (fun i wr => ∃ k : Nat, k ≤ 10 ∧ k ≤ K ∧ i = .int .i64 k ∧ Row3 wr g' 10 nameB (valB id) ∧ g' < wr.heap.size ∧ Below w.heap.size w wr) (fun i _ => 10 - (intOf i).toNat)
    case atStart => exact ⟨0, by omega, by omega, rfl, HW.out, hlt, HB⟩
    case round =>
      obtain ⟨k, hk, hkK, rfl, hrow, hgr, hb⟩ := hrel
      by_cases hk10 : k < 10
      · obtain ⟨c0, c1, c2⟩ := hrow k hk10
        rw [Nat.mul_comm] at c0 c1 c2
        have ht := HI.out.2 k hk10
        have HW2 : Hid (Row3 wr g' 10 nameB (valB id)) := hrow
        clear hrow
        by_cases hkk : k = K
        · have ht' : ((nameB k).toList == n.toList) = true := by rw [ht]; simpa using hkk
          have HK : Hid (k = K) := hkk
          clear ht hkk
          go_wp2
          go_ret2
          refine ⟨?_, hb.alloc hb.size _⟩
          have e := HK.out
          subst e
          rw [show decide (k < 10) = true from by simpa using hk10]
          rfl
        · have ht' : ((nameB k).toList == n.toList) = false := by rw [ht]; simpa using hkk
          clear ht
          go_wp2
          go_roundw
          case rel => exact ⟨k + 1, by omega, by omega, by go_num, HW2.out.below ((Below.refl _ _).alloc (Nat.le_refl _) _) hgr, by simp; omega, hb.alloc hb.size _⟩
          case measure => simp [intOf]; omega
      · obtain rfl : k = 10 := by omega
        obtain rfl : K = 10 := by have := HI.out.1; omega
        go_wp2
        go_ret2
        exact ⟨rfl, hb⟩
end Go.Proofs.Qxb6600435aMods
