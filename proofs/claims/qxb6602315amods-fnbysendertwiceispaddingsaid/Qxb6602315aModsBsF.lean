import Derived.Test.Qxb6602315aModsBsE
import Derived.Test.Qxb6602315aModsTnB
import Derived.WalkKit
import Derived.WalkSpells
import Derived.WalkLawsBesides
import Derived.Deep.OwnRows
namespace Go.Proofs.Qxb6602315aMods
open Go.RowKit
attribute [local go_sem] run_store_float

theorem info42 : (Trym.prog.info? 42).map (fun i => (i.zero, i.size, i.bytes)) = some (some (.slice none 0 0), 1, 24) := by kernel_rfl
theorem info44 : (Trym.prog.info? 44).map (fun i => (i.zero, i.size, i.bytes)) = some (some (.slice none 0 0), 1, 24) := by kernel_rfl


set_option maxHeartbeats 4000000 in
theorem copy_some (x : Addr) (n c lo : Nat) (L : Nat → Nat) (M : Nat → Nat → Nat) (z : Nat → Nat → Nat → Nat) (nl : Nat → Nat → Bool) (w : World) (h : Sent lo w (.slice (some x) n c) n L M z nl) (hs : Small n L M) :
    Calls Trym.prog 20 #[.slice (some x) n c] w fun e w' => ∃ v, e = .returned v ∧ Sent w.heap.size w' v n L M z nl ∧ Below w.heap.size w w' := by
  have HS : Hid (Sent lo w (.slice (some x) n c) n L M z nl) := h
  have HB : Hid (Small n L M) := hs
  have hn : n ≤ 65536 := hs.1
  clear h hs
  have hnil := fun (w : World) (a : Option Addr) (l c : Nat) => Lib.run_eql_slice_nil (P := Trym.prog) w 35 45 a l c 0 0 Trym.underlying35
  have hmk := run_make_row' (P := Trym.prog) 39 42 (.slice none 0 0) 24 Trym.underlying39 info42 rfl .i64 .i64 n (by omega) (by omega)
  go_enter Trym.func20, Trym.ntmps20
  go_wp2
  clear hnil hmk
  go_loopw [4] (fun i wr => ∃ p : Nat, p ≤ n ∧ i = .int .i64 p ∧ ∃ U : Nat → Value, wr.rowIs w.heap.size 42 n (upto p U) ∧ (∀ q, q < p → Msg (w.heap.size + 1) wr (U q) (L q) (M q) (z q) (nl q)) ∧ Below w.heap.size w wr) (fun i _ => n - (intOf i).toNat)
  case atStart =>
    exact ⟨0, by omega, rfl, fun _ => .slice none 0 0, (World.rowIs_made w (.slice none 0 0) n 42).congr fun i _ => by simp [upto], fun q hq => absurd hq (by omega), (Below.refl _ _).alloc (Nat.le_refl _) _⟩
  case round =>
    obtain ⟨p, hp, rfl, U, hrow, hmsg, hbel⟩ := hrel
    have HR : Hid (wr.rowIs w.heap.size 42 n (upto p U)) := hrow
    have HG : Hid (∀ q, q < p → Msg (w.heap.size + 1) wr (U q) (L q) (M q) (z q) (nl q)) := hmsg
    have hlt0 := hrow.lt
    clear hrow hmsg
    by_cases hlt : p < n
    · obtain ⟨b, d, hc, hm⟩ := (HS.out.below hbel).row p hlt
      have HM : Hid (Msg lo wr (.slice b (L p) d) (L p) (M p) (z p) (nl p)) := hm
      clear hm
      have hLp := (HB.out.2 p hlt).1
      have hnil2 := fun (w : World) (a : Option Addr) (l c : Nat) => Lib.run_eql_slice_nil (P := Trym.prog) w 45 43 a l c 0 0 Trym.underlying45
      cases b with
      | none =>
        have hl0 : L p = 0 := HM.out.nought
        have HL : Hid (L p = 0) := hl0
        clear hl0
        go_wp2
        go_roundw
        case rel =>
          refine ⟨p + 1, by omega, by go_num, fun j => if j = p then .slice none 0 0 else U j, HR.out.congr fun i _ => upto_skip p U i, fun q hq => ?_, hbel⟩
          by_cases e : q = p
          · subst e
            simp only [if_true]
            rw [HL.out]
            exact ⟨none, 0, fun _ => .slice none 0 0, rfl, ⟨(fun x hx => by cases hx), fun _ => rfl⟩, fun k hk => absurd hk (by omega)⟩
          · simp only [if_neg e]
            exact HG.out q (by omega)
        case measure => simp [intOf]; omega
      | some y =>
        have hmk := run_make_row' (P := Trym.prog) 42 44 (.slice none 0 0) 24 Trym.underlying42 info44 rfl .i64 .i64 (L p) (by omega) (by omega)
        go_wp2
        clear hmk hnil2 hc
        obtain ⟨wo, hwo⟩ : ∃ wo : World, wo = wr := ⟨_, rfl⟩
        subst hwo
        go_loopw [7] (fun i wi => ∃ k : Nat, k ≤ L p ∧ i = .int .i64 k ∧ ∃ V : Nat → Value, wi.rowIs wo.heap.size 44 (L p) (upto k V) ∧ (∀ j, j < k → Vec (wo.heap.size + 1) wi (V j) (M p j) (z p j) (nl p j)) ∧ Below wo.heap.size wo wi) (fun i _ => L p - (intOf i).toNat)
        case atStart =>
          exact ⟨0, by omega, rfl, fun _ => .slice none 0 0, (World.rowIs_made wo (.slice none 0 0) (L p) 44).congr fun i _ => by simp [upto], fun q hq => absurd hq (by omega), (Below.refl _ _).alloc (Nat.le_refl _) _⟩
        case round =>
          obtain ⟨k, hk, rfl, V, hrow1, hvec, hbel1⟩ := hrel
          have HR1 : Hid (wr.rowIs wo.heap.size 44 (L p) (upto k V)) := hrow1
          have HV : Hid (∀ j, j < k → Vec (wo.heap.size + 1) wr (V j) (M p j) (z p j) (nl p j)) := hvec
          have hlt1 := hrow1.lt
          clear hvec
          by_cases hkl : k < L p
          · obtain ⟨b2, d2, hc2, hv2⟩ := (HM.out.below hbel1).ent k hkl
            have HV2 : Hid (Vec lo wr (.slice b2 (M p k) d2) (M p k) (z p k) (nl p k)) := hv2
            clear hv2
            have hMk := (HB.out.2 p hlt).2 k hkl
            have hnil3 := fun (w : World) (a : Option Addr) (l c : Nat) => run_neq_slice_nil_any (P := Trym.prog) w 43 50 a l c 0 0 Trym.underlying43
            cases b2 with
            | none =>
              clear hrow1
              go_wp2
              go_roundw
              case rel =>
                refine ⟨k + 1, by omega, by go_num, fun j => if j = k then .slice none 0 0 else V j, HR1.out.congr fun i _ => upto_skip k V i, fun q hq => ?_, hbel1⟩
                by_cases e : q = k
                · subst e
                  simp only [if_true]
                  obtain ⟨a', c', e1, e2, e3⟩ := HV2.out
                  cases e1
                  rw [e3.2 rfl, ← e2]
                  exact Vec.none _
                · simp only [if_neg e]
                  exact HV.out q (by omega)
              case measure => simp [intOf]; omega
            | some y2 =>
              have hmk := run_make_row' (P := Trym.prog) 44 50 (.float .f64 0) 8 Trym.underlying44 info50 rfl .i64 .i64 (M p k) (by omega) (by omega)
              have hcell1 : wr.cell? ⟨wo.heap.size, k, none⟩ = some (.slice none 0 0) := by rw [hrow1.cell hkl]; simp [upto]
              have HC1 : Hid (wr.cell? ⟨wo.heap.size, k, none⟩ = some (.slice none 0 0)) := hcell1
              have HF1 : Hid (wr.frozen? ⟨wo.heap.size, k, none⟩ = false) := hrow1.frozen k
              clear hrow1 hcell1
              go_wp2
              clear hmk hnil3 hc2
              obtain ⟨wi, hwi⟩ : ∃ wi : World, wi = wr := ⟨_, rfl⟩
              subst hwi
              go_loopw [10] (fun i wj => ∃ t : Nat, t ≤ M p k ∧ i = .int .i64 t ∧ FRow wj wi.heap.size (M p k) (fun q => if q < t then z p k q else 0) ∧ Below wi.heap.size wi wj) (fun i _ => M p k - (intOf i).toNat)
              case atStart => exact ⟨0, by omega, rfl, (FRow.made wi (M p k)).congr fun j _ => by simp, (Below.refl _ _).alloc (Nat.le_refl _) _⟩
              case round =>
                obtain ⟨t, ht, rfl, hrow2, hbel2⟩ := hrel
                have HR2 : Hid (FRow wr wi.heap.size (M p k) (fun q => if q < t then z p k q else 0)) := hrow2
                by_cases htm : t < M p k
                · obtain ⟨a', c', e1, e2, e3⟩ := HV2.out
                  cases e1
                  have hcx := ((e3.below hbel2).1 y2 rfl).2 t htm
                  clear e2 e3
                  obtain ⟨y0, hc0⟩ : ∃ y0, wr.cell? ⟨wi.heap.size, t, none⟩ = some (.float .f64 y0) := ⟨_, World.rowIs.cell hrow2 htm⟩
                  have hf0 := World.rowIs.frozen hrow2 t
                  clear hrow2
                  go_wp2
                  go_roundw
                  case rel =>
                    refine ⟨t + 1, by omega, by go_num, (HR2.out.set t (z p k t)).congr fun j hj => ?_, hbel2.setCell (Nat.le_refl _) _⟩
                    by_cases e : j = t
                    · subst e; simp
                    · by_cases e2 : j < t
                      · rw [if_neg e, if_pos e2, if_pos (by omega)]
                      · rw [if_neg e, if_neg e2, if_neg (by omega)]
                  case measure => simp [intOf]; omega
                · have hrow2' : FRow wr wi.heap.size (M p k) (z p k) := hrow2.congr fun j hj => by rw [if_pos (by omega)]
                  have HR3 : Hid (FRow wr wi.heap.size (M p k) (z p k)) := hrow2'
                  have hcell1 := (hbel2.cell (p := ⟨wo.heap.size, k, none⟩) hlt1).trans HC1.out
                  have hfro1 := (hbel2.frozen (p := ⟨wo.heap.size, k, none⟩) hlt1).trans HF1.out
                  clear hrow2 hrow2' HR2
                  go_wp2
                  go_roundw
                  case rel =>
                    have hb3 : Below wo.heap.size wo wr := hbel1.trans (hbel2.mono hbel1.size)
                    refine ⟨k + 1, by omega, by go_num, fun j => if j = k then .slice (some ⟨wi.heap.size, 0, none⟩) (M p k) (M p k) else V j, ?_, fun q hq => ?_, hb3.setCell (Nat.le_refl _) _⟩
                    · exact ((row_below HR1.out hbel2 hlt1).set k _).congr fun i _ => upto_step k V _ i
                    · by_cases e : q = k
                      · subst e
                        simp only [if_true]
                        obtain ⟨a', c', e1, e2, e3⟩ := HV2.out
                        cases e1
                        exact Vec.set ⟨some ⟨wi.heap.size, 0, none⟩, M p q, rfl, (by simpa using e2), cells_row (lo := wo.heap.size + 1) HR3.out (by omega)⟩ (Nat.lt_succ_self _) _ _
                      · simp only [if_neg e]
                        exact ((HV.out q (by omega)).below hbel2).set (Nat.lt_succ_self _) _ _
                  case measure => simp [intOf]; omega
          · have hrow1' : wr.rowIs wo.heap.size 44 (L p) V := hrow1.congr fun j hj => upto_full V j hj (by omega)
            have HR3 : Hid (wr.rowIs wo.heap.size 44 (L p) V) := hrow1'
            have hro := row_below HR.out hbel1 hlt0
            have hcell0 : wr.cell? ⟨w.heap.size, p, none⟩ = some (.slice none 0 0) := by rw [hro.cell hlt]; simp [upto]
            have hfro0 := hro.frozen p
            have HRO : Hid (wr.rowIs w.heap.size 42 n (upto p U)) := hro
            clear hrow1 hrow1' hro
            go_wp2
            go_roundw
            case rel =>
              refine ⟨p + 1, by omega, by go_num, fun j => if j = p then .slice (some ⟨wo.heap.size, 0, none⟩) (L p) (L p) else U j, ?_, fun q hq => ?_, (hbel.trans (hbel1.mono hbel.size)).setCell (Nat.le_refl _) _⟩
              · exact (HRO.out.set p _).congr fun i _ => upto_step p U _ i
              · by_cases e : q = p
                · subst e
                  simp only [if_true]
                  exact Msg.set ⟨_, _, V, rfl, cells_row (lo := w.heap.size + 1) HR3.out (by omega), fun k' hk' => (HV.out k' (by omega)).mono (by omega)⟩ (Nat.lt_succ_self _) _ _
                · simp only [if_neg e]
                  exact ((HG.out q (by omega)).below hbel1).set (Nat.lt_succ_self _) _ _
            case measure => simp [intOf]; omega
    · go_wp2
      go_ret
      exact ⟨_, rfl, ⟨_, _, U, rfl, cells_row (HR.out.congr fun i hi => upto_full U i hi (by omega)) (Nat.le_refl _), fun q hq => (HG.out q (by omega)).mono (Nat.le_succ _)⟩, hbel⟩

set_option maxHeartbeats 400000 in
theorem copy_none (n c : Nat) (w : World) : Calls Trym.prog 20 #[.slice none n c] w fun e w' => e = .returned (.slice none 0 0) ∧ w = w' := by
  have hnil := fun (w : World) (a : Option Addr) (l c : Nat) => Lib.run_eql_slice_nil (P := Trym.prog) w 35 45 a l c 0 0 Trym.underlying35
  go_enter Trym.func20, Trym.ntmps20
  go_wp2
  go_ret
  exact ⟨rfl, rfl⟩

/-- A fresh deep copy. -/
theorem copy_any (v : Value) (n lo : Nat) (L : Nat → Nat) (M : Nat → Nat → Nat) (z : Nat → Nat → Nat → Nat) (nl : Nat → Nat → Bool) (w : World) (h : Sent lo w v n L M z nl) (hs : Small n L M) :
    Calls Trym.prog 20 #[v] w fun e w' => ∃ v, e = .returned v ∧ Sent w.heap.size w' v n L M z nl ∧ Below w.heap.size w w' := by
  obtain ⟨a, c, U, rfl, h1, h2⟩ := h
  cases a with
  | none =>
    obtain rfl : n = 0 := h1.2 rfl
    refine (copy_none 0 c w).mono ?_
    rintro e w' ⟨rfl, rfl⟩
    exact ⟨_, rfl, ⟨none, 0, fun _ => .slice none 0 0, rfl, ⟨(fun x hx => by cases hx), fun _ => rfl⟩, fun k hk => absurd hk (by omega)⟩, Below.refl _ _⟩
  | some x => exact copy_some x n c lo L M z nl w ⟨some x, c, U, rfl, h1, h2⟩ hs

end Go.Proofs.Qxb6602315aMods
