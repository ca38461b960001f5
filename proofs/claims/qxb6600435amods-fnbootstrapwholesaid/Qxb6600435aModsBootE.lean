import Derived.Test.Qxb6600435aModsBootD
import Derived.Test.Qxb6600435aModsLimit
import Derived.WalkKit
import Derived.WalkSpells
import Derived.WalkLawsBesides
import Derived.BigQuiet
import Derived.Deep.QuietTactic
namespace Go.Proofs.Qxb6600435aMods
open Go.RowKit

/-- The identity b as it lies in its variable. -/
def Boxed (w : World) (B g : Nat) (id : ByteArray) : Prop :=
  w.cell? ⟨B, 0, none⟩ = some (.string id) ∧ w.cell? ⟨B, 1, none⟩ = some (.string client) ∧ w.cell? ⟨B, 2, none⟩ = some (.string nought) ∧ w.cell? ⟨B, 3, none⟩ = some (.int .i64 0) ∧
    w.cell? ⟨B, 4, none⟩ = some (.slice (some ⟨g, 0, none⟩) 7 7) ∧ w.cell? ⟨B, 5, none⟩ = some (.bool false)

theorem Boxed.below {w w' : World} {B g C : Nat} {id : ByteArray} (h : Boxed w B g id) (hb : Below C w w') (hB : B < C) : Boxed w' B g id := by
  obtain ⟨a, b, c, d, e, f⟩ := h
  exact ⟨(hb.cell (p := ⟨B, _, none⟩) hB).trans a, (hb.cell (p := ⟨B, _, none⟩) hB).trans b, (hb.cell (p := ⟨B, _, none⟩) hB).trans c, (hb.cell (p := ⟨B, _, none⟩) hB).trans d, (hb.cell (p := ⟨B, _, none⟩) hB).trans e, (hb.cell (p := ⟨B, _, none⟩) hB).trans f⟩

set_option maxHeartbeats 1000000 in
theorem boot_walk (id n : ByteArray) (ca : Int) (w : World) (hs1 : id.size ≤ maxLen) (hs2 : n.size ≤ maxLen) :
    Calls Trym.prog 6 #[.string id, .string n, .int .i64 ca] w fun e w' => e = .returned (.bool true) ∧ Below w.heap.size w w' := by
  obtain ⟨K, hK⟩ := idx_any n
  have HI : Hid (Idx n K) := hK
  clear hK
  have HL : Hid (lim 0 ca = ca) := rfl
  have hcl : (client.toList == [99, 108, 105, 101, 110, 116]) = true := by rw [ByteArray.toList_eq]; rfl
  have hno : nought.toList = [] := by rw [ByteArray.toList_eq]; rfl
  have hb1 : id.size ≤ 9223372036854775807 := hs1
  have hb2 : n.size ≤ 9223372036854775807 := hs2
  by_cases hA : 65536 < id.size
  · go_enter Trym.func6, Trym.ntmps6
    go_wp2_with fail
    refine (bytes_any _ _ _ _ hs1 hs2).mono ?_
    rintro e w' ⟨rfl | rfl, rfl⟩
    all_goals
      go_wp2
      go_ret
      exact ⟨rfl, Below.refl _ _⟩
  by_cases hB : 65536 < n.size
  · go_enter Trym.func6, Trym.ntmps6
    go_wp2_with fail
    refine (bytes_any _ _ _ _ hs1 hs2).mono ?_
    rintro e w' ⟨rfl | rfl, rfl⟩
    all_goals
      go_wp2
      go_ret
      exact ⟨rfl, Below.refl _ _⟩
  go_enter Trym.func6, Trym.ntmps6
  go_wp2_with fail
  refine (bytes_any _ _ _ _ hs1 hs2).mono ?_
  rintro e w' ⟨rfl | rfl, rfl⟩
  · go_wp2_with fail
    refine (boot_any _ _).mono ?_
    rintro e w1 ⟨g, rfl, hrow, hg, hbel⟩
    have HR : Hid (Row3 w1 g 7 (fun i => nameB (3 + i)) fun i => valB id (3 + i)) := hrow
    clear hrow
    go_wp2_with fail
    refine (limit_any _ _ _ _ _ _ _ _).mono ?_
    rintro e w' ⟨rfl, rfl⟩
    rw [HL.out]
    go_wp2
    go_loopw [8] (fun i wr => ∃ k : Nat, k ≤ 7 ∧ i = .int .i64 k ∧ Boxed wr w1.heap.size g id ∧ Row3 wr g 7 (fun i => nameB (3 + i)) (fun i => valB id (3 + i)) ∧ w1.heap.size < wr.heap.size ∧ Below w.heap.size w wr) (fun i _ => 7 - (intOf i).toNat)
    case atStart =>
      have hsz := hbel.size
      refine ⟨0, by omega, rfl, ?_, ?_, by simp; omega, ?_⟩
      · refine ⟨?_, ?_, ?_, ?_, ?_, ?_⟩ <;> go_simp
      · exact HR.out.below (((Below.refl _ _).alloc (Nat.le_refl _) _).alloc (by simp) _) hg
      · exact (hbel.alloc hsz _).alloc (by simp; omega) _
    case round =>
      obtain ⟨k, hk, rfl, hbox, hrow, hsz1, hb⟩ := hrel
      have HX : Hid (Boxed wr w1.heap.size g id) := hbox
      have HW : Hid (Row3 wr g 7 (fun i => nameB (3 + i)) fun i => valB id (3 + i)) := hrow
      by_cases hk7 : k < 7
      · obtain ⟨c0, c1, c2⟩ := hrow k hk7
        obtain ⟨-, -, -, -, x4, -⟩ := hbox
        rw [Nat.mul_comm] at c0 c1 c2
        clear hrow
        go_wp2_with fail
        refine (auth_any k _ hk7).mono ?_
        rintro e w' ⟨rfl, rfl⟩
        go_wp2_with fail
        refine (want_any _ _ _ _ (idx_name (3 + k) (by omega))).mono ?_
        rintro e w' ⟨rfl, rfl⟩
        go_wp2
        clear c0 c1 c2 x4
        obtain ⟨wo, hwo⟩ : ∃ wo : World, wo = wr := ⟨_, rfl⟩
        subst hwo
        go_loopw [12] (fun j wi => ∃ q : Nat, q ≤ k ∧ j = .int .i64 q ∧ Boxed wi w1.heap.size g id ∧ Row3 wi g 7 (fun i => nameB (3 + i)) (fun i => valB id (3 + i)) ∧ wi.cell? ⟨wo.heap.size, 0, none⟩ = some (.string (nameB (3 + k))) ∧ wo.heap.size < wi.heap.size ∧ Below w.heap.size w wi) (fun j _ => k - (intOf j).toNat)
        case atStart =>
          have hal := (Below.refl wo.heap.size wo).alloc (Nat.le_refl _) (.cells #[.string (nameB (3 + k)), .string (valB id (3 + k)), .bool false] 32)
          exact ⟨0, by omega, rfl, HX.out.below hal hsz1, HW.out.below hal (by have := hbel.size; omega), by go_simp, by simp, hb.alloc hb.size _⟩
        case round =>
          obtain ⟨q, hq, rfl, hbox, hrow, hcA, hszA, hbi⟩ := hrel
          have HX2 : Hid (Boxed wr w1.heap.size g id) := hbox
          have HW2 : Hid (Row3 wr g 7 (fun i => nameB (3 + i)) fun i => valB id (3 + i)) := hrow
          by_cases hqk : q < k
          · obtain ⟨c0, -, -⟩ := hrow q (by omega)
            obtain ⟨-, -, -, -, x4, -⟩ := hbox
            rw [Nat.mul_comm] at c0
            have hq7 : (q : Int) < 7 := by omega
            have hne := (idx_name (3 + k) (by omega)).2 (3 + q) (by omega)
            rw [show decide (3 + q = 3 + k) = false from by simp; omega] at hne
            clear hrow
            go_wp2
            go_quiet (fail)
            go_wp2
            go_roundw
            case rel =>
              have hd : ∀ B, Below B wr (wr.drewN nq) := fun B => ⟨rfl, rfl, rfl, Nat.le_refl _, fun _ _ => rfl⟩
              exact ⟨q + 1, by omega, by go_num, HX2.out.below (hd (w1.heap.size + 1)) (by omega), HW2.out.below (hd (g + 1)) (by omega), hcA, hszA, hbi.trans (hd _)⟩
            case measure => simp [intOf]; omega
          · clear hrow hbox
            go_wp2
            go_roundw
            case rel => exact ⟨k + 1, by omega, by go_num, HX2.out, HW2.out, by omega, hbi⟩
            case measure => simp [intOf]; omega
      · obtain ⟨x0, x1, x2, x3, x4, x5⟩ := hbox
        clear hrow
        go_wp2_with fail
        refine (attr_any id n K g _ HI.out HW.out (by have := hbel.size; omega)).mono ?_
        rintro e w' ⟨rfl, hb2⟩
        go_wp2_with fail
        refine (want_any _ _ _ _ HI.out).mono ?_
        rintro e w'' ⟨rfl, rfl⟩
        go_wp2
        go_ret
        exact ⟨rfl, hb.trans (hb2.mono hb.size)⟩
  · go_wp2
    go_ret
    exact ⟨rfl, Below.refl _ _⟩
end Go.Proofs.Qxb6600435aMods
