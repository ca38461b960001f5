import Derived.Test.Qxb6602315aModsTnC
import Derived.WalkKit
import Derived.WalkSpells
import Derived.WalkLawsBesides
import Derived.Deep.OwnRows
namespace Go.Proofs.Qxb6602315aMods
open Go.RowKit
attribute [local go_sem] run_store_float

/-- What the walk knows of a slice of floats: whatever its address, its cells below the heap's end. -/
def VOK (w : World) (a : Option Addr) (len : Nat) (z : Nat → Nat) : Prop := (∀ x, a = some x → (0 < len → x.block < w.heap.size) ∧ FCells w x len z) ∧ (a = none → len = 0)

theorem VOK.below {w w' : World} {a : Option Addr} {len : Nat} {z : Nat → Nat} (h : VOK w a len z) (hb : Below w.heap.size w w') : VOK w' a len z :=
  ⟨fun x hx => ⟨fun h0 => Nat.lt_of_lt_of_le ((h.1 x hx).1 h0) hb.size, (h.1 x hx).2.below hb (h.1 x hx).1⟩, h.2⟩

set_option maxHeartbeats 1000000 in
theorem clone_nil' (len cap : Nat) (w : World) (h : len = 0) :
    Calls Trym.prog 24 #[.slice none len cap] w fun e w' => e = .returned (.slice none len len) ∧ w = w' := by
  subst h
  have hnil := fun (w : World) (a : Option Addr) (l c : Nat) => Lib.run_eql_slice_nil (P := Trym.prog) w 43 50 a l c 0 0 Trym.underlying43
  go_enter Trym.func24, Trym.ntmps24
  go_wp2
  go_ret
  exact ⟨rfl, rfl⟩

theorem clone_any (a : Option Addr) (len cap : Nat) (z : Nat → Nat) (w : World) (hl : len ≤ 65536) (h : VOK w a len z) :
    Calls Trym.prog 24 #[.slice a len cap] w fun e w' => ∃ va, e = .returned (.slice va len len) ∧ VOK w' va len z ∧ Below w.heap.size w w' := by
  cases a with
  | none =>
    refine (clone_nil' len cap w (h.2 rfl)).mono ?_
    rintro e w' ⟨rfl, rfl⟩
    exact ⟨none, rfl, h, Below.refl _ _⟩
  | some x =>
    refine (clone_some x len cap z w hl (h.1 x rfl).1 (h.1 x rfl).2).mono ?_
    rintro e w' ⟨rfl, hr, hb⟩
    refine ⟨_, rfl, ⟨fun y hy => ?_, fun e => by cases e⟩, hb⟩
    cases hy
    exact ⟨fun _ => World.rowIs.lt hr, hr.cells⟩

set_option maxHeartbeats 400000 in
theorem door_tensor (a : Option Addr) (len cap m j : Nat) (z : Nat → Nat) (w : World) (hlen : len ≤ 65536) (hm : m ≤ 1023) (hj : j ≤ m) (hsz : len * m ≤ 1048576) (h : VOK w a len z) :
    Calls Trym.prog 25 #[.slice a len cap, .int .i64 j, .int .i64 ((m : Int) + 1)] w fun e w' =>
      e = .returned (.slice (some ⟨w.heap.size, 0, none⟩) (len * m) (len * m)) ∧ FRow w' w.heap.size (len * m) (tv z len m j) ∧ Below w.heap.size w w' := by
  go_enter Trym.func25, Trym.ntmps25
  go_wp2_with fail
  refine (tensor_any a len cap m j z _ hlen hm hj hsz h.1 h.2).mono ?_
  rintro e w' ⟨rfl, hr, hb⟩
  go_wp2
  go_ret
  exact ⟨rfl, hr, hb⟩

/-- The running sum at place i behind j tensors. -/
def ac (z : Nat → Nat) (len m j i : Nat) : Nat := if j ≤ i / len then 0 else if j ≤ m then Fl.keep (z (i % len)) else 0

theorem ac_step (z : Nat → Nat) (len m j i : Nat) (hi : i < len * m) (hj : j ≤ m) (hz : z (i % len) < 18446744073709551616) (hf : Fl.fin (z (i % len)) = true) :
    Ieee.double.add (ac z len m j i) (tv z len m j i) = some (ac z len m (j + 1) i) := by
  have hd : i / len < m := Nat.div_lt_of_lt_mul hi
  unfold ac tv
  generalize z (i % len) = x at *
  by_cases h1 : j = m
  · subst h1
    rw [if_neg (by omega), if_pos (Nat.le_refl _), if_pos rfl, if_neg (by omega), if_neg (by omega)]
    exact Fl.addkflip x hz hf
  · rw [if_neg h1]
    by_cases h2 : i / len = j
    · rw [if_pos (by omega), if_pos h2, if_neg (by omega), if_pos (by omega)]
      exact Fl.add0 x hz hf
    · rw [if_neg h2]
      by_cases h3 : j ≤ i / len
      · rw [if_pos h3, if_pos (by omega)]
        decide
      · rw [if_neg h3, if_pos hj, if_neg (by omega), if_pos (by omega)]
        exact Fl.addk0 x hz hf

theorem ac_end (z : Nat → Nat) (len m i : Nat) (hi : i < len * m) : ac z len m (m + 1) i = 0 := by
  have hd : i / len < m := Nat.div_lt_of_lt_mul hi
  unfold ac
  rw [if_neg (by omega), if_neg (by omega)]

theorem size_fits {len m : Nat} {p : Int} (hp : p = (m : Int) + 1) (h : 1 < p → (len : Int) * ((p - 1) * p) ≤ 1048576) : len * m ≤ 1048576 := by
  subst hp
  by_cases h0 : m = 0
  · subst h0; omega
  · have h1 := h (by omega)
    have h2 : (len : Int) * (m : Int) ≤ (len : Int) * (((m : Int) + 1 - 1) * ((m : Int) + 1)) := by
      apply Int.mul_le_mul_of_nonneg_left
      · rw [show (m : Int) + 1 - 1 = (m : Int) from by omega]
        have h4 : (m : Int) * 1 ≤ (m : Int) * ((m : Int) + 1) := Int.mul_le_mul_of_nonneg_left (by omega) (by omega)
        omega
      · omega
    have h3 : ((len * m : Nat) : Int) ≤ 1048576 := by rw [Int.natCast_mul]; omega
    omega

/-- The running sum while tensor j is being added: the first c places have it. -/
def am (z : Nat → Nat) (len m j c i : Nat) : Nat := if i < c then ac z len m (j + 1) i else ac z len m j i

theorem am_step (z : Nat → Nat) (len m j c i : Nat) : (if i = c then ac z len m (j + 1) c else am z len m j c i) = am z len m j (c + 1) i := by
  unfold am
  by_cases e : i = c
  · subst e; rw [if_pos rfl, if_pos (by omega)]
  · rw [if_neg e]
    by_cases h : i < c
    · rw [if_pos h, if_pos (by omega)]
    · rw [if_neg h, if_neg (by omega)]

set_option maxHeartbeats 2000000 in
theorem tensor_law (a : Option Addr) (len cap : Nat) (p : Int) (z : Nat → Nat) (w : World) (hl : len ≤ maxLen) (h : VOK w a len z) (hz : ∀ i, i < len → z i < 18446744073709551616) :
    Calls Trym.prog 6 #[.slice a len cap, .int .i64 p] w fun e w' => e = .returned (.bool true) ∧ Below w.heap.size w w' := by
  by_cases hp : 1 ≤ p ∧ p ≤ 1024
  · obtain ⟨m, rfl⟩ : ∃ m : Nat, p = (m : Int) + 1 := ⟨(p - 1).toNat, by omega⟩
    have hm : m ≤ 1023 := by omega
    clear hp
    go_enter Trym.func6, Trym.ntmps6
    go_wp2_with fail
    refine (tbytes_any _ _ _ _ _ hl).mono ?_
    rintro e w' ⟨rfl | rfl, rfl⟩
    · go_wp2_with fail
      refine (skips_any a len cap _ z _ hl h.1 h.2 hz).mono ?_
      rintro e w1 ⟨rfl | ⟨rfl, hfit⟩, hb1⟩
      · go_wp2
        go_ret
        exact ⟨rfl, hb1⟩
      · obtain ⟨hlen, -, -, hsz0, hfin⟩ := hfit
        have hsz := size_fits rfl hsz0
        have HF : Hid (∀ k, k < len → Fl.fin (z k) = true) := hfin
        have HZ : Hid (∀ i, i < len → z i < 18446744073709551616) := hz
        have HV : Hid (VOK w a len z) := h
        clear hsz0 hfin hz h hl
        go_wp2_with fail
        refine (clone_any a len cap z _ hlen (HV.out.below hb1)).mono ?_
        rintro e w2 ⟨va, rfl, hva, hb2⟩
        have HB : Below w.heap.size w w2 := hb1.trans (hb2.mono hb1.size)
        have HVA : Hid (VOK w2 va len z) := hva
        clear hva hb1 hb2
        have q1 : ((len * m : Nat) : Int) ≤ 1048576 := by omega
        rw [Int.natCast_mul] at q1
        have q0 : 0 ≤ (len : Int) * (m : Int) := Int.mul_nonneg (by omega) (by omega)
        have hmk := run_make_row' (P := Trym.prog) 43 50 (.float .f64 0) 8 Trym.underlying43 info50 rfl .i64 .i64 (len * m) (by omega) (by omega)
        rw [Int.natCast_mul] at hmk
        go_wp2
        clear hmk
        go_loopw [7] (fun i wr => ∃ j : Nat, j ≤ m + 1 ∧ i = .int .i64 j ∧ FRow wr w2.heap.size (len * m) (ac z len m j) ∧ Below w2.heap.size w2 wr) (fun i _ => m + 1 - (intOf i).toNat)
        case atStart => exact ⟨0, by omega, rfl, (FRow.made w2 (len * m)).congr fun i _ => by simp [ac], (Below.refl _ _).alloc (Nat.le_refl _) _⟩
        case round =>
          obtain ⟨j, hj, rfl, hrow, hbw⟩ := hrel
          have HR : Hid (FRow wr w2.heap.size (len * m) (ac z len m j)) := hrow
          have hga := World.rowIs.lt hrow
          clear hrow
          by_cases hjm : j ≤ m
          · go_wp2_with fail
            refine (door_tensor va len len m j z _ hlen hm hjm hsz (HVA.out.below hbw)).mono ?_
            rintro e w3 ⟨rfl, ht, hb3⟩
            have HT : Hid (FRow w3 wr.heap.size (len * m) (tv z len m j)) := ht
            have HR3 : Hid (FRow w3 w2.heap.size (len * m) (ac z len m j)) := HR.out.below hb3 hga
            have HB3 : Below w2.heap.size w2 w3 := hbw.trans (hb3.mono hbw.size)
            clear ht hb3
            go_wp2
            obtain ⟨wo, hwo⟩ : ∃ wo : World, wo = wr := ⟨_, rfl⟩
            subst hwo
            go_loopw [9] (fun i wi => ∃ c : Nat, c ≤ len * m ∧ i = .int .i64 c ∧ FRow wi w2.heap.size (len * m) (am z len m j c) ∧ FRow wi wo.heap.size (len * m) (tv z len m j) ∧ Below w2.heap.size w2 wi) (fun i _ => len * m - (intOf i).toNat)
            case atStart => exact ⟨0, by omega, rfl, HR3.out.congr fun i _ => by simp [am], HT.out, HB3⟩
            case round =>
              obtain ⟨c, hc, rfl, hra, hrt, hbi⟩ := hrel
              have HA : Hid (FRow wr w2.heap.size (len * m) (am z len m j c)) := hra
              have HT2 : Hid (FRow wr wo.heap.size (len * m) (tv z len m j)) := hrt
              by_cases hcl : c < len * m
              · have hca : wr.cell? ⟨w2.heap.size, c, none⟩ = some (.float .f64 (ac z len m j c)) := by
                  rw [World.rowIs.cell hra hcl]; simp [am]
                have hct := World.rowIs.cell hrt hcl
                have hfa := World.rowIs.frozen hra c
                have hl0 : 0 < len := by
                  rcases Nat.eq_zero_or_pos len with e | e
                  · rw [e, Nat.zero_mul] at hcl; omega
                  · exact e
                have hadd := fun w => run_float_arith (P := Trym.prog) w .add 50 .f64 _ _ _ (ac_step z len m j c hcl hjm (HZ.out _ (Nat.mod_lt _ hl0)) (HF.out _ (Nat.mod_lt _ hl0)))
                have q2 : (c : Int) < ((len * m : Nat) : Int) := by omega
                rw [Int.natCast_mul] at q2
                clear hra hrt
                go_wp2
                go_region
                all_goals
                  go_wp2
                  go_roundw
                  case rel =>
                    refine ⟨c + 1, by omega, by go_num, ?_, ?_, ?_⟩
                    · exact (HA.out.set c (ac z len m (j + 1) c)).congr fun i _ => am_step z len m j c i
                    · exact World.rowIs.setOther HT2.out (by show wo.heap.size ≠ w2.heap.size; omega) _
                    · exact (hbi.setCell (Nat.le_refl _) _).drew
                  case measure => simp [intOf]; omega
              · clear hra hrt
                have q2 : ((len * m : Nat) : Int) ≤ (c : Int) := by omega
                rw [Int.natCast_mul] at q2
                go_wp2
                go_roundw
                case rel =>
                  exact ⟨j + 1, by omega, by go_num, HA.out.congr fun i hi => by unfold am; rw [if_pos (by omega)], hbi⟩
                case measure => simp [intOf]; omega
          · obtain rfl : j = m + 1 := by omega
            have HE : Hid (FRow wr w2.heap.size (len * m) (fun _ => 0)) := HR.out.congr fun i hi => ac_end z len m i hi
            clear HR
            go_wp2
            go_loop [10] (fun i => ∃ c : Nat, c ≤ len * m ∧ i = .int .i64 c) (fun i => len * m - (intOf i).toNat)
            case atStart => exact ⟨0, by omega, rfl⟩
            case round =>
              obtain ⟨c, hc, rfl⟩ := hrel
              by_cases hcl : c < len * m
              · have hca := World.rowIs.cell HE.out hcl
                have hze := zero_eq
                have q2 : (c : Int) < ((len * m : Nat) : Int) := by omega
                rw [Int.natCast_mul] at q2
                go_wp2
                go_round
                case rel => exact ⟨c + 1, by omega, by go_num⟩
                case measure => simp [intOf]; omega
              · have q2 : ((len * m : Nat) : Int) ≤ (c : Int) := by omega
                rw [Int.natCast_mul] at q2
                go_wp2
                go_ret
                exact ⟨rfl, HB.trans (hbw.mono HB.size)⟩
    · go_wp2
      go_ret
      exact ⟨rfl, Below.refl _ _⟩
  · go_enter Trym.func6, Trym.ntmps6
    go_wp2_with fail
    refine (tbytes_any _ _ _ _ _ hl).mono ?_
    rintro e w' ⟨rfl | rfl, rfl⟩
    · go_wp2_with fail
      refine (skips_any a len cap _ z _ hl h.1 h.2 hz).mono ?_
      rintro e w1 ⟨rfl | ⟨rfl, hfit⟩, hb1⟩
      · go_wp2
        go_ret
        exact ⟨rfl, hb1⟩
      · exact absurd ⟨hfit.2.1, hfit.2.2.1⟩ hp
    · go_wp2
      go_ret
      exact ⟨rfl, Below.refl _ _⟩

end Go.Proofs.Qxb6602315aMods
