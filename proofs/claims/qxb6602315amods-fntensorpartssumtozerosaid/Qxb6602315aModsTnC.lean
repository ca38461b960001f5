import Derived.Test.Qxb6602315aModsTnB
import Derived.WalkKit
import Derived.WalkSpells
import Derived.WalkLawsBesides
import Derived.Deep.OwnRows
namespace Go.Proofs.Qxb6602315aMods
open Go.RowKit
attribute [local go_sem] run_store_float

/-- Minus a float: its sign bit turned. -/
theorem run_neg_float (P : Program) (w : World) (b : Nat) : (Op.unary .neg (.float .f64 b)).run P w = .ok (.float .f64 (Fl.flip b)) w := rfl
attribute [local go_sem] run_neg_float

/-- What tensor(v, j, m + 1) holds at place i, by its bits. -/
def tv (z : Nat → Nat) (len m j i : Nat) : Nat := if j = m then Fl.flip (z (i % len)) else if i / len = j then z (i % len) else 0

/-- The row when the first c places are filled. -/
def tf (z : Nat → Nat) (len m j c i : Nat) : Nat := if i < c then tv z len m j i else 0

theorem tf_skip (z : Nat → Nat) (len m j b i : Nat) (h1 : j ≠ b) (h2 : j ≠ m) : tf z len m j (b * len) i = tf z len m j ((b + 1) * len) i := by
  unfold tf
  have e : (b + 1) * len = b * len + len := Nat.succ_mul b len
  by_cases ha : i < b * len
  · rw [if_pos ha, if_pos (by omega)]
  · by_cases hb : i < (b + 1) * len
    · rw [if_neg ha, if_pos hb]
      have hd : i / len = b := Nat.div_eq_of_lt_le (by omega) hb
      unfold tv
      rw [if_neg h2, hd, if_neg (fun e => h1 e.symm)]
    · rw [if_neg ha, if_neg hb]

/-- What is stored at block b, place k. -/
theorem tf_step (z : Nat → Nat) (len m j b k v i : Nat) (hk : k < len) (hv : v = if j = m then Fl.flip (z k) else z k) (hjb : j = b ∨ j = m) :
    (if i = b * len + k then v else tf z len m j (b * len + k) i) = tf z len m j (b * len + (k + 1)) i := by
  by_cases e : i = b * len + k
  · rw [if_pos e]
    have hd : i / len = b := Nat.div_eq_of_lt_le (by omega) (by rw [Nat.succ_mul]; omega)
    have hm : i % len = k := by rw [e, Nat.mul_comm, Nat.mul_add_mod, Nat.mod_eq_of_lt hk]
    unfold tf tv
    rw [if_pos (by omega), hd, hm, hv]
    by_cases h : j = m
    · rw [if_pos h, if_pos h]
    · rw [if_neg h, if_neg h, if_pos (by omega)]
  · rw [if_neg e]
    unfold tf
    by_cases h : i < b * len + k
    · rw [if_pos h, if_pos (by omega)]
    · rw [if_neg h, if_neg (by omega)]

theorem place_lt {b k len m : Nat} (hb : b < m) (hk : k < len) : b * len + k < len * m := by
  have h := Nat.mul_le_mul_right len (show b + 1 ≤ m from hb)
  rw [Nat.succ_mul, Nat.mul_comm m len] at h
  omega

set_option maxHeartbeats 1000000 in
theorem tensor_any (a : Option Addr) (len cap m j : Nat) (z : Nat → Nat) (w : World) (hlen : len ≤ 65536) (hm : m ≤ 1023) (hj : j ≤ m) (hsz : len * m ≤ 1048576)
    (ha : ∀ x, a = some x → (0 < len → x.block < w.heap.size) ∧ FCells w x len z) (hn : a = none → len = 0) :
    Calls Trym.prog 29 #[.slice a len cap, .int .i64 j, .int .i64 ((m : Int) + 1)] w fun e w' =>
      e = .returned (.slice (some ⟨w.heap.size, 0, none⟩) (len * m) (len * m)) ∧ FRow w' w.heap.size (len * m) (tv z len m j) ∧ Below w.heap.size w w' := by
  have HA : Hid (∀ x, a = some x → (0 < len → x.block < w.heap.size) ∧ FCells w x len z) := ha
  have HN : Hid (a = none → len = 0) := hn
  clear ha hn
  have hb1 : ((len * m : Nat) : Int) ≤ 1048576 := by omega
  rw [Int.natCast_mul] at hb1
  have hb0 : 0 ≤ (len : Int) * (m : Int) := Int.mul_nonneg (by omega) (by omega)
  have hmk := run_make_row' (P := Trym.prog) 44 50 (.float .f64 0) 8 Trym.underlying44 info50 rfl .i64 .i64 (len * m) (by omega) (by omega)
  rw [Int.natCast_mul] at hmk
  go_enter Trym.func29, Trym.ntmps29
  go_wp2
  clear hmk
  go_loopw [19] (fun i wr => ∃ b : Nat, b ≤ m ∧ i = .int .i64 b ∧ FRow wr w.heap.size (len * m) (tf z len m j (b * len)) ∧ Below w.heap.size w wr) (fun i _ => m - (intOf i).toNat)
  case atStart => exact ⟨0, by omega, rfl, (FRow.made w (len * m)).congr fun i _ => by simp [tf], (Below.refl _ _).alloc (Nat.le_refl _) _⟩
  case round =>
    obtain ⟨b, hb, rfl, hrow, hbel⟩ := hrel
    have HR : Hid (FRow wr w.heap.size (len * m) (tf z len m j (b * len))) := hrow
    clear hrow
    by_cases hlt : b < m
    · by_cases hskip : j ≠ b ∧ j ≠ m
      · obtain ⟨h1, h2⟩ := hskip
        have h1' : ((j : Int) != (b : Int)) = true := by simp; omega
        have h2' : ((j : Int) != (m : Int)) = true := by simp; omega
        go_wp2
        go_roundw
        case rel => exact ⟨b + 1, by omega, by go_num, HR.out.congr fun i _ => tf_skip z len m j b i h1 h2, hbel⟩
        case measure => simp [intOf]; omega
      · have hjb : j = b ∨ j = m := by omega
        have ht : (((j : Int) != (b : Int)) && ((j : Int) != (m : Int))) = false := by simp; omega
        have hc : ((j : Int) != (b : Int)) = false ∨ ((j : Int) != (b : Int)) = true ∧ ((j : Int) != (m : Int)) = false := by simp; omega
        rcases hc with h1 | ⟨h1, h2⟩
        all_goals
          go_wp2
          clear h1 ht
          obtain ⟨wo, hwo⟩ : ∃ wo : World, wo = wr := ⟨_, rfl⟩
          subst hwo
          go_loopw [33] (fun i wi => ∃ k : Nat, k ≤ len ∧ i = .int .i64 k ∧ FRow wi w.heap.size (len * m) (tf z len m j (b * len + k)) ∧ Below w.heap.size w wi) (fun i _ => len - (intOf i).toNat)
          case atStart => exact ⟨0, by omega, rfl, HR.out, hbel⟩
          case round =>
            obtain ⟨k, hk, rfl, hrow, hbi⟩ := hrel
            have HI : Hid (FRow wr w.heap.size (len * m) (tf z len m j (b * len + k))) := hrow
            by_cases hkl : k < len
            · have hpl := place_lt hlt hkl
              obtain ⟨y0, hc0⟩ : ∃ y0, wr.cell? ⟨w.heap.size, b * len + k, none⟩ = some (.float .f64 y0) := ⟨_, World.rowIs.cell hrow hpl⟩
              have hf0 := World.rowIs.frozen hrow (b * len + k)
              clear hrow
              cases a with
              | none => exact absurd (HN.out rfl) (by omega)
              | some x =>
                obtain ⟨hxb, hcs⟩ := HA.out x rfl
                have hc := hcs.below hbi hxb k hkl
                clear hcs
                have p0 : 0 ≤ (b : Int) * (len : Int) := Int.mul_nonneg (by omega) (by omega)
                have p1 : ((b * len + k : Nat) : Int) < ((len * m : Nat) : Int) := by omega
                rw [Int.natCast_add, Int.natCast_mul, Int.natCast_mul] at p1
                have p2 : ((b : Int) * (len : Int) + (k : Int)).toNat = b * len + k := by
                  rw [← Int.natCast_mul, ← Int.natCast_add, Int.toNat_natCast]
                by_cases hjm : j = m
                · have hjm' : ((j : Int) == (m : Int)) = true := by simp; omega
                  go_wp2
                  go_roundw
                  case rel => exact ⟨k + 1, by omega, by go_num, (HI.out.set (b * len + k) (Fl.flip (z k))).congr fun i _ => tf_step z len m j b k _ i hkl (by rw [if_pos hjm]) hjb, hbi.setCell (Nat.le_refl _) _⟩
                  case measure => simp [intOf]; omega
                · have hjm' : ((j : Int) == (m : Int)) = false := by simp; omega
                  go_wp2
                  go_roundw
                  case rel => exact ⟨k + 1, by omega, by go_num, (HI.out.set (b * len + k) (z k)).congr fun i _ => tf_step z len m j b k _ i hkl (by rw [if_neg hjm]) hjb, hbi.setCell (Nat.le_refl _) _⟩
                  case measure => simp [intOf]; omega
            · clear hrow
              go_wp2
              go_roundw
              case rel =>
                obtain rfl : k = len := by omega
                exact ⟨b + 1, by omega, by go_num, by rw [Nat.succ_mul]; exact HI.out, hbi⟩
              case measure => simp [intOf]; omega
    · go_wp2
      go_ret
      obtain rfl : b = m := by omega
      exact ⟨rfl, HR.out.congr fun i hi => by unfold tf; rw [if_pos (by rw [Nat.mul_comm]; exact hi)], hbel⟩
end Go.Proofs.Qxb6602315aMods
