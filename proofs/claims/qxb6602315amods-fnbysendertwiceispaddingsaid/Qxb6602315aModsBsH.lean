import Derived.Test.Qxb6602315aModsBsG
import Derived.Test.Qxb6602315aModsBsB
import Derived.WalkKit
import Derived.WalkSpells
import Derived.WalkLawsBesides
import Derived.Deep.OwnRows
namespace Go.Proofs.Qxb6602315aMods
open Go.RowKit

theorem Sent.form {lo : Nat} {w : World} {v : Value} {n : Nat} {L : Nat → Nat} {M : Nat → Nat → Nat} {z : Nat → Nat → Nat → Nat} {nl : Nat → Nat → Bool} (h : Sent lo w v n L M z nl) : ∃ a c, v = .slice a n c := by
  obtain ⟨a, c, _, e, _⟩ := h
  exact ⟨a, c, e⟩

/-- bySender: the entries regrouped; N: the longest message's length. -/
theorem by_any (a : Option Addr) (n c lo N : Nat) (L : Nat → Nat) (M : Nat → Nat → Nat) (z : Nat → Nat → Nat → Nat) (nl : Nat → Nat → Bool) (w : World) (h : Sent lo w (.slice a n c) n L M z nl) (hn : n ≤ 65536) (hL : ∀ p, p < n → L p ≤ 65536) (hlo : lo ≤ w.heap.size) (hN : N = wid L n) :
    Calls Trym.prog 27 #[.slice a n c] w fun e w' => ∃ a' c', e = .returned (.slice a' N c') ∧ Sent lo w' (.slice a' N c') N (fun _ => n) (TM L M) (TZ z) (TN L nl) ∧ Below w.heap.size w w' := by
  subst hN
  obtain ⟨E, hE⟩ := h.rows2
  refine (by_walk a n c lo L M z nl E w hE hn hL).mono ?_
  rintro e w' ⟨r, rfl, h1, h2, hb⟩
  refine ⟨_, _, rfl, ⟨_, _, _, rfl, cells_row h1 hlo, fun q hq => ?_⟩, hb⟩
  obtain ⟨q1, q2⟩ := h2 q hq
  refine ⟨_, _, _, rfl, cells_row q2 (by omega), fun p hp => ?_⟩
  unfold tv2 TM TZ TN
  by_cases hk : q < L p
  · rw [if_pos hk, if_pos hk, if_pos hk]
    exact (hE.2.2 p hp q hk).below hb
  · rw [if_neg hk, if_neg hk, if_neg hk]
    exact Vec.none _

set_option maxHeartbeats 400000 in
theorem door_by (a : Option Addr) (n c lo N : Nat) (L : Nat → Nat) (M : Nat → Nat → Nat) (z : Nat → Nat → Nat → Nat) (nl : Nat → Nat → Bool) (w : World) (h : Sent lo w (.slice a n c) n L M z nl) (hn : n ≤ 65536) (hL : ∀ p, p < n → L p ≤ 65536) (hlo : lo ≤ w.heap.size) (hN : N = wid L n) :
    Calls Trym.prog 19 #[.slice a n c] w fun e w' => ∃ a' c', e = .returned (.slice a' N c') ∧ Sent lo w' (.slice a' N c') N (fun _ => n) (TM L M) (TZ z) (TN L nl) ∧ Below w.heap.size w w' := by
  have HN : Hid (N = wid L n) := hN
  clear hN
  go_enter Trym.func19, Trym.ntmps19
  go_wp2_with fail
  refine (by_any a n c lo N L M z nl _ h hn hL hlo HN.out).mono ?_
  rintro e w' ⟨a', c', rfl, hs, hb⟩
  have HS : Hid (Sent lo w' (.slice a' N c') N (fun _ => n) (TM L M) (TZ z) (TN L nl)) := hs
  clear hs h
  go_wp2
  go_ret
  exact ⟨a', c', rfl, HS.out, hb⟩

theorem deep_at (a : Option Addr) (n c lo : Nat) (L : Nat → Nat) (M : Nat → Nat → Nat) (z : Nat → Nat → Nat → Nat) (nl : Nat → Nat → Bool) (w : World) (h : Sent lo w (.slice a n c) n L M z nl) (hs : Small n L M) :
    Calls Trym.prog 17 #[.slice a n c] w fun e w' => ∃ a' c', e = .returned (.slice a' n c') ∧ Sent w.heap.size w' (.slice a' n c') n L M z nl ∧ Below w.heap.size w w' := by
  refine (deep_any _ n lo L M z nl w h hs).mono ?_
  rintro e w' ⟨v, rfl, h1, h2⟩
  obtain ⟨a', c', rfl⟩ := h1.form
  exact ⟨a', c', rfl, h1, h2⟩

theorem copy_at (a : Option Addr) (n c lo : Nat) (L : Nat → Nat) (M : Nat → Nat → Nat) (z : Nat → Nat → Nat → Nat) (nl : Nat → Nat → Bool) (w : World) (h : Sent lo w (.slice a n c) n L M z nl) (hs : Small n L M) :
    Calls Trym.prog 20 #[.slice a n c] w fun e w' => ∃ a' c', e = .returned (.slice a' n c') ∧ Sent w.heap.size w' (.slice a' n c') n L M z nl ∧ Below w.heap.size w w' := by
  refine (copy_any _ n lo L M z nl w h hs).mono ?_
  rintro e w' ⟨v, rfl, h1, h2⟩
  obtain ⟨a', c', rfl⟩ := h1.form
  exact ⟨a', c', rfl, h1, h2⟩

theorem width_at (a : Option Addr) (n c lo N : Nat) (L : Nat → Nat) (M : Nat → Nat → Nat) (z : Nat → Nat → Nat → Nat) (nl : Nat → Nat → Bool) (w : World) (h : Sent lo w (.slice a n c) n L M z nl) (hn : n ≤ 65536) (hN : N = wid L n) :
    Calls Trym.prog 18 #[.slice a n c] w fun e w' => e = .returned (.int .i64 N) ∧ w = w' := by
  subst hN
  refine (width_any a n c lo L M z nl w h hn).mono ?_
  rintro e w' ⟨rfl, rfl⟩
  exact ⟨rfl, rfl⟩

theorem wid_const (n W : Nat) (h : 0 < W) : n = wid (fun _ => n) W := by
  induction W with
  | zero => omega
  | succ W ih =>
    unfold wid
    rcases Nat.eq_zero_or_pos W with e | e
    · subst e; simp [wid]
    · rw [← ih e]; simp

set_option maxHeartbeats 4000000 in
/-- No message has an entry. -/
theorem by_law0 (a : Option Addr) (n c lo : Nat) (L : Nat → Nat) (M : Nat → Nat → Nat) (z : Nat → Nat → Nat → Nat) (nl : Nat → Nat → Bool) (w : World) (h : Sent lo w (.slice a n c) n L M z nl) (hW : 0 = wid L n) :
    Calls Trym.prog 5 #[.slice a n c] w fun e w' => e = .returned (.bool true) ∧ Below w.heap.size w w' := by
  have HS : Hid (Sent lo w (.slice a n c) n L M z nl) := h
  have HW : Hid (0 = wid L n) := hW
  clear h hW
  go_enter Trym.func5, Trym.ntmps5
  go_wp2_with fail
  refine (sbytes_any a n c lo L M z nl _ HS.out).mono ?_
  rintro e w' ⟨rfl | rfl, rfl⟩
  · go_wp2_with fail
    refine (big_any a n c lo L M z nl _ HS.out).mono ?_
    rintro e w' ⟨rfl | ⟨rfl, hsm⟩, rfl⟩
    · go_wp2
      go_ret
      exact ⟨rfl, Below.refl _ _⟩
    · have HB : Hid (Small n L M) := hsm
      have hn : n ≤ 65536 := hsm.1
      clear hsm
      go_wp2_with fail
      refine (deep_at a n c lo L M z nl _ HS.out HB.out).mono ?_
      rintro e w1 ⟨a1, c1, rfl, hs1, hb1⟩
      have HS1 : Hid (Sent w.heap.size w1 (.slice a1 n c1) n L M z nl) := hs1
      clear hs1
      go_wp2_with fail
      refine (width_at a1 n c1 _ 0 L M z nl _ HS1.out hn HW.out).mono ?_
      rintro e w' ⟨rfl, rfl⟩
      go_wp2_with fail
      refine (copy_at a1 n c1 _ L M z nl _ HS1.out HB.out).mono ?_
      rintro e w2 ⟨a2, c2, rfl, hs2, hb2⟩
      have hb12 : Below w.heap.size w w2 := hb1.trans (hb2.mono hb1.size)
      have HS2 : Hid (Sent w1.heap.size w2 (.slice a2 n c2) n L M z nl) := hs2
      clear hs2
      go_wp2_with fail
      refine (door_by a2 n c2 _ 0 L M z nl _ HS2.out hn (fun p hp => (HB.out.2 p hp).1) hb2.size HW.out).mono ?_
      rintro e w3 ⟨a3, c3, rfl, hs3, hb3⟩
      have hb13 : Below w.heap.size w w3 := hb12.trans (hb3.mono hb12.size)
      have HS3 : Hid (Sent w1.heap.size w3 (.slice a3 0 c3) 0 (fun _ => n) (TM L M) (TZ z) (TN L nl)) := hs3
      clear hs3
      go_wp2_with fail
      refine (door_by a3 0 c3 _ 0 _ _ _ _ _ HS3.out (by omega) (fun p hp => absurd hp (by omega)) (Nat.le_trans hb2.size hb3.size) rfl).mono ?_
      rintro e w4 ⟨a4, c4, rfl, hs4, hb4⟩
      have hb14 : Below w.heap.size w w4 := hb13.trans (hb4.mono hb13.size)
      clear hs4
      go_wp2
      go_ret
      exact ⟨rfl, hb14⟩
  · go_wp2
    go_ret
    exact ⟨rfl, Below.refl _ _⟩

theorem tm_in (L : Nat → Nat) (M : Nat → Nat → Nat) (n p k : Nat) (hp : p < n) (hk : k < L p) : TM (fun _ => n) (TM L M) p k = M p k := by
  unfold TM; rw [if_pos hp, if_pos hk]
theorem tn_in (L : Nat → Nat) (nl : Nat → Nat → Bool) (n p k : Nat) (hp : p < n) (hk : k < L p) : TN (fun _ => n) (TN L nl) p k = nl p k := by
  unfold TN; rw [if_pos hp, if_pos hk]
theorem tn_out (L : Nat → Nat) (nl : Nat → Nat → Bool) (n p k : Nat) (hp : p < n) (hk : ¬ k < L p) : TN (fun _ => n) (TN L nl) p k = true := by
  unfold TN; rw [if_pos hp, if_neg hk]
theorem cell_lt {w : World} {x : Addr} {i : Nat} {v : Value} (h : w.cell? (x.add i) = some v) : x.block < w.heap.size := by
  rcases Nat.lt_or_ge x.block w.heap.size with e | e
  · exact e
  · have e2 : (x.add i).block = x.block := add_block x i
    have e3 : w.heap[(x.add i).block]? = none := by rw [e2]; exact Array.getElem?_eq_none e
    simp [World.cell?, e3] at h

set_option maxHeartbeats 4000000 in
/-- The longest message has W entries. -/
theorem by_law1 (a : Option Addr) (n c lo W : Nat) (L : Nat → Nat) (M : Nat → Nat → Nat) (z : Nat → Nat → Nat → Nat) (nl : Nat → Nat → Bool) (w : World) (h : Sent lo w (.slice a n c) n L M z nl) (hW : W = wid L n) (h0 : 0 < W) :
    Calls Trym.prog 5 #[.slice a n c] w fun e w' => e = .returned (.bool true) ∧ Below w.heap.size w w' := by
  have HS : Hid (Sent lo w (.slice a n c) n L M z nl) := h
  have HW : Hid (W = wid L n) := hW
  have h0' : ((W : Int) == 0) = false := by simp; omega
  clear h hW
  go_enter Trym.func5, Trym.ntmps5
  go_wp2_with fail
  refine (sbytes_any a n c lo L M z nl _ HS.out).mono ?_
  rintro e w' ⟨rfl | rfl, rfl⟩
  · go_wp2_with fail
    refine (big_any a n c lo L M z nl _ HS.out).mono ?_
    rintro e w' ⟨rfl | ⟨rfl, hsm⟩, rfl⟩
    · go_wp2
      go_ret
      exact ⟨rfl, Below.refl _ _⟩
    · have HB : Hid (Small n L M) := hsm
      have hn : n ≤ 65536 := hsm.1
      have hWle : W ≤ 65536 := by rw [HW.out]; exact wid_le L n 65536 (fun p hp => (hsm.2 p hp).1)
      clear hsm
      go_wp2_with fail
      refine (deep_at a n c lo L M z nl _ HS.out HB.out).mono ?_
      rintro e w1 ⟨a1, c1, rfl, hs1, hb1⟩
      have HS1 : Hid (Sent w.heap.size w1 (.slice a1 n c1) n L M z nl) := hs1
      clear hs1
      go_wp2_with fail
      refine (width_at a1 n c1 _ W L M z nl _ HS1.out hn HW.out).mono ?_
      rintro e w' ⟨rfl, rfl⟩
      go_wp2_with fail
      refine (copy_at a1 n c1 _ L M z nl _ HS1.out HB.out).mono ?_
      rintro e w2 ⟨a2, c2, rfl, hs2, hb2⟩
      have HS2 : Hid (Sent w1.heap.size w2 (.slice a2 n c2) n L M z nl) := hs2
      clear hs2
      go_wp2_with fail
      refine (door_by a2 n c2 _ W L M z nl _ HS2.out hn (fun p hp => (HB.out.2 p hp).1) hb2.size HW.out).mono ?_
      rintro e w3 ⟨a3, c3, rfl, hs3, hb3⟩
      have hb13 : Below w1.heap.size w1 w3 := hb2.trans (hb3.mono hb2.size)
      have HS3 : Hid (Sent w1.heap.size w3 (.slice a3 W c3) W (fun _ => n) (TM L M) (TZ z) (TN L nl)) := hs3
      clear hs3
      go_wp2_with fail
      refine (door_by a3 W c3 _ n _ _ _ _ _ HS3.out hWle (fun p hp => hn) hb13.size (wid_const n W h0)).mono ?_
      rintro e w4 ⟨a4, c4, rfl, hs4, hb4⟩
      have hb14 : Below w1.heap.size w1 w4 := hb13.trans (hb4.mono hb13.size)
      have HS4 : Hid (Sent w1.heap.size w4 (.slice a4 n c4) n (fun _ => W) (TM (fun _ => n) (TM L M)) (TZ (TZ z)) (TN (fun _ => n) (TN L nl))) := hs4
      clear hs4 hb2 hb3 hb4 hb13
      go_wp2
      go_loopw [5] (fun i wr => ∃ p : Nat, p ≤ n ∧ i = .int .i64 p ∧ Below w4.heap.size w4 wr) (fun i _ => n - (intOf i).toNat)
      case atStart => exact ⟨0, by omega, rfl, Below.refl _ _⟩
      case round =>
        obtain ⟨p, hp, rfl, hbw⟩ := hrel
        by_cases hlt : p < n
        · cases a4 with
          | none => exact absurd HS4.out.nought (by omega)
          | some x4 =>
            cases a1 with
            | none => exact absurd HS1.out.nought (by omega)
            | some x1 =>
              obtain ⟨b4, d4, hc4, hm4⟩ := (HS4.out.below hbw).row p hlt
              have hc4' : wr.cell? (x4.add p) = some (.slice b4 W d4) := hc4
              have HM4 : Hid (Msg w1.heap.size wr (.slice b4 W d4) W (TM (fun _ => n) (TM L M) p) (TZ (TZ z) p) (TN (fun _ => n) (TN L nl) p)) := hm4
              have hx4 : x4.block < wr.heap.size := cell_lt hc4
              clear hc4 hm4
              go_wp2
              obtain ⟨wo, hwo⟩ : ∃ wo : World, wo = wr := ⟨_, rfl⟩
              subst hwo
              have HC4 : Hid (wo.cell? (x4.add p) = some (.slice b4 W d4)) := hc4'
              clear hc4'
              go_loopw [6] (fun i wi => ∃ k : Nat, k ≤ W ∧ i = .int .i64 k ∧ Below wo.heap.size wo wi) (fun i _ => W - (intOf i).toNat)
              case atStart => exact ⟨0, by omega, rfl, Below.refl _ _⟩
              case round =>
                obtain ⟨k, hk, rfl, hbi⟩ := hrel
                have hbx : Below w1.heap.size w1 wr := (hb14.trans (hbw.mono hb14.size)).trans (hbi.mono (Nat.le_trans hb14.size hbw.size))
                by_cases hkW : k < W
                · cases b4 with
                  | none => exact absurd HM4.out.nought (by omega)
                  | some y4 =>
                    have hc4 := (hbi.cell (p := x4.add p) (by rw [add_block]; exact hx4)).trans HC4.out
                    obtain ⟨b5, d5, hc5, hv5⟩ := (HM4.out.below hbi).ent k hkW
                    obtain ⟨b1, d1, hc1, hm1⟩ := (HS1.out.below hbx).row p hlt
                    have i1 : (p : Int) < (n : Int) := by omega
                    have i2 : (k : Int) < (W : Int) := by omega
                    by_cases hkL : k < L p
                    · have i3 : (k : Int) < (L p : Int) := by omega
                      cases b1 with
                      | none => exact absurd hm1.nought (by omega)
                      | some y1 =>
                        obtain ⟨b6, d6, hc6, hv6⟩ := hm1.ent k hkL
                        rw [tm_in L M n p k hlt hkL] at hc5 hv5
                        rw [tn_in L nl n p k hlt hkL] at hv5
                        have HV5 : Hid (Vec w1.heap.size wr (.slice b5 (M p k) d5) (M p k) (z p k) (nl p k)) := hv5
                        have HV6 : Hid (Vec w.heap.size wr (.slice b6 (M p k) d6) (M p k) (z p k) (nl p k)) := hv6
                        clear hv5 hv6 hm1
                        go_wp2_with fail
                        refine (vec_any _ _ (M p k) _ _ (z p k) (nl p k) _ ((HB.out.2 p hlt).2 k hkL) HV5.out HV6.out).mono ?_
                        rintro e w5 ⟨rfl, hb5⟩
                        go_wp2
                        go_roundw
                        case rel => exact ⟨k + 1, by omega, by go_num, hbi.trans (hb5.mono hbi.size)⟩
                        case measure => simp [intOf]; omega
                    · have i3 : (L p : Int) ≤ (k : Int) := by omega
                      rw [tn_out L nl n p k hlt hkL] at hv5
                      obtain ⟨a', c', e1, e2, -⟩ := hv5
                      cases e1
                      cases b5 with
                      | some y => cases e2
                      | none =>
                        have hnq := fun (w : World) (a : Option Addr) (l c : Nat) => run_neq_slice_nil_any (P := Trym.prog) w 43 50 a l c 0 0 Trym.underlying43
                        clear e2 hm1
                        go_wp2
                        go_roundw
                        case rel => exact ⟨k + 1, by omega, by go_num, hbi⟩
                        case measure => simp [intOf]; omega
                · go_wp2
                  go_roundw
                  case rel => exact ⟨p + 1, by omega, by go_num, hbw.trans (hbi.mono hbw.size)⟩
                  case measure => simp [intOf]; omega
        · go_wp2
          go_ret
          exact ⟨rfl, (hb1.trans (hb14.mono hb1.size)).trans (hbw.mono (Nat.le_trans hb1.size hb14.size))⟩
  · go_wp2
    go_ret
    exact ⟨rfl, Below.refl _ _⟩

theorem by_law (a : Option Addr) (n c lo : Nat) (L : Nat → Nat) (M : Nat → Nat → Nat) (z : Nat → Nat → Nat → Nat) (nl : Nat → Nat → Bool) (w : World) (h : Sent lo w (.slice a n c) n L M z nl) :
    Calls Trym.prog 5 #[.slice a n c] w fun e w' => e = .returned (.bool true) ∧ Below w.heap.size w w' := by
  rcases Nat.eq_zero_or_pos (wid L n) with e | e
  · exact by_law0 a n c lo L M z nl w h e.symm
  · exact by_law1 a n c lo (wid L n) L M z nl w h rfl e

end Go.Proofs.Qxb6602315aMods
