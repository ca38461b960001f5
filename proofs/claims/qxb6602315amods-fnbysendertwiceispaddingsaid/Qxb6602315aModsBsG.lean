import Derived.Test.Qxb6602315aModsBsF
import Derived.WalkKit
import Derived.WalkSpells
import Derived.WalkLawsBesides
import Derived.Deep.OwnRows
import Derived.Deep.Slices
namespace Go.Proofs.Qxb6602315aMods
open Go.RowKit

/-- What bySender puts at row k, place p: entry k of message p, nil where it has none. -/
def tv2 (L : Nat → Nat) (E : Nat → Nat → Value) (k p : Nat) : Value := if k < L p then E p k else .slice none 0 0

def TM (L : Nat → Nat) (M : Nat → Nat → Nat) (k p : Nat) : Nat := if k < L p then M p k else 0
def TZ (z : Nat → Nat → Nat → Nat) (k p : Nat) : Nat → Nat := z p k
def TN (L : Nat → Nat) (nl : Nat → Nat → Bool) (k p : Nat) : Bool := if k < L p then nl p k else true

/-- Message p's slice and its entries, the entries' values under one name. -/
def Rows2 (lo : Nat) (w : World) (a : Option Addr) (n : Nat) (L : Nat → Nat) (M : Nat → Nat → Nat) (z : Nat → Nat → Nat → Nat) (nl : Nat → Nat → Bool) (E : Nat → Nat → Value) : Prop :=
  (∀ x, a = some x → ∀ p, p < n → x.block < w.heap.size ∧ ∃ b d, w.cell? (x.add p) = some (.slice b (L p) d) ∧ CellsIn lo w b (L p) (E p)) ∧ (a = none → n = 0) ∧
    ∀ p, p < n → ∀ k, k < L p → Vec lo w (E p k) (M p k) (z p k) (nl p k)

theorem Sent.rows2 {lo : Nat} {w : World} {a : Option Addr} {n c : Nat} {L : Nat → Nat} {M : Nat → Nat → Nat} {z : Nat → Nat → Nat → Nat} {nl : Nat → Nat → Bool} (h : Sent lo w (.slice a n c) n L M z nl) : ∃ E, Rows2 lo w a n L M z nl E := by
  obtain ⟨a', c', U, e, hc, hm⟩ := h
  cases e
  obtain ⟨E, hE⟩ := Go.Deep.choose_lt (α := Nat → Value) (p := fun p E => ∃ b d, U p = .slice b (L p) d ∧ CellsIn lo w b (L p) E ∧ ∀ k, k < L p → Vec lo w (E k) (M p k) (z p k) (nl p k)) (n := n) (fun p hp => by
    obtain ⟨b, d, V, e, h1, h2⟩ := hm p hp
    exact ⟨V, b, d, e, h1, h2⟩)
  refine ⟨E, fun x hx p hp => ?_, hc.2, fun p hp k hk => ?_⟩
  · obtain ⟨b, d, e, h1, _⟩ := hE p hp
    exact ⟨((hc.1 x hx).1 (by omega)).2, b, d, by rw [(hc.1 x hx).2 p hp, e], h1⟩
  · obtain ⟨b, d, _, _, h2⟩ := hE p hp
    exact h2 k hk

theorem upto_more (c : Nat) (U : Nat → Value) (i : Nat) (h : U c = .slice none 0 0) : upto c U i = upto (c + 1) U i := by
  unfold upto
  by_cases e : i = c
  · subst e; simp [h]
  · by_cases h : i < c
    · simp [h, show i < c + 1 from by omega]
    · simp [h, show ¬ i < c + 1 from by omega]

theorem upto_put (c : Nat) (U : Nat → Value) (v : Value) (i : Nat) (h : U c = v) : (if i = c then v else upto c U i) = upto (c + 1) U i := by
  unfold upto
  by_cases e : i = c
  · subst e; simp [h]
  · by_cases h : i < c
    · simp [e, h, show i < c + 1 from by omega]
    · simp [e, h, show ¬ i < c + 1 from by omega]

theorem made_at (w : World) (z : Value) (n : Nat) (t : TypeId) {g : Nat} (hg : g = w.heap.size) : (w.alloc (.cells (madeCells #[z] n) t)).rowIs g t n (fun _ => z) := by
  subst hg; exact World.rowIs_made w z n t

set_option maxHeartbeats 4000000 in
theorem by_walk (a : Option Addr) (n c lo : Nat) (L : Nat → Nat) (M : Nat → Nat → Nat) (z : Nat → Nat → Nat → Nat) (nl : Nat → Nat → Bool) (E : Nat → Nat → Value) (w : World) (h : Rows2 lo w a n L M z nl E) (hn : n ≤ 65536) (hL : ∀ p, p < n → L p ≤ 65536) :
    Calls Trym.prog 27 #[.slice a n c] w fun e w' => ∃ r : Nat → Nat, e = .returned (.slice (some ⟨w.heap.size, 0, none⟩) (wid L n) (wid L n)) ∧
      w'.rowIs w.heap.size 42 (wid L n) (fun q => .slice (some ⟨r q, 0, none⟩) n n) ∧ (∀ q, q < wid L n → w.heap.size < r q ∧ w'.rowIs (r q) 44 n (tv2 L E q)) ∧ Below w.heap.size w w' := by
  have HS : Hid (Rows2 lo w a n L M z nl E) := h
  have HL : Hid (∀ p, p < n → L p ≤ 65536) := hL
  have hW : wid L n ≤ 65536 := wid_le L n 65536 hL
  clear h hL
  go_enter Trym.func27, Trym.ntmps27
  go_wp2
  go_loop [3, 12] (fun s i => ∃ p : Nat, p ≤ n ∧ i = .int .i64 p ∧ s = .int .i64 (wid L p)) (fun _ i => n - (intOf i).toNat)
  case atStart => exact ⟨0, by omega, rfl, rfl⟩
  case round =>
    obtain ⟨p, hp, rfl, rfl⟩ := hrel
    by_cases hlt : p < n
    · cases a with
      | none => exact absurd (HS.out.2.1 rfl) (by omega)
      | some x =>
        obtain ⟨-, b, d, hc, -⟩ := HS.out.1 x rfl p hlt
        have HW : Hid (wid L (p + 1) = max (wid L p) (L p)) := rfl
        generalize wid L p = q at *
        by_cases hq : (L p : Int) < (q : Int)
        · go_wp2
          go_round
          case rel => exact ⟨p + 1, by omega, by go_num, by rw [HW.out]; go_num⟩
          case measure => simp [intOf]; omega
        · go_wp2
          go_round
          case rel => exact ⟨p + 1, by omega, by go_num, by rw [HW.out]; go_num⟩
          case measure => simp [intOf]; omega
    · obtain rfl : n = p := by omega
      have hmk := run_make_row' (P := Trym.prog) 39 42 (.slice none 0 0) 24 Trym.underlying39 info42 rfl .i64 .i64 (wid L n) (by omega) (by omega)
      go_wp2
      clear hmk
      go_loopw [25] (fun i wr => ∃ k : Nat, k ≤ wid L n ∧ i = .int .i64 k ∧ ∃ r : Nat → Nat, wr.rowIs w.heap.size 42 (wid L n) (upto k (fun q => .slice (some ⟨r q, 0, none⟩) n n)) ∧ (∀ q, q < k → w.heap.size < r q ∧ wr.rowIs (r q) 44 n (tv2 L E q)) ∧ Below w.heap.size w wr) (fun i _ => wid L n - (intOf i).toNat)
      case atStart =>
        exact ⟨0, by omega, rfl, fun _ => 0, (World.rowIs_made w (.slice none 0 0) (wid L n) 42).congr fun i _ => by simp [upto], fun q hq => absurd hq (by omega), (Below.refl _ _).alloc (Nat.le_refl _) _⟩
      case round =>
        obtain ⟨k, hk, rfl, r, hrow, hrs, hbel⟩ := hrel
        have HR : Hid (wr.rowIs w.heap.size 42 (wid L n) (upto k (fun q => .slice (some ⟨r q, 0, none⟩) n n))) := hrow
        have HQ : Hid (∀ q, q < k → w.heap.size < r q ∧ wr.rowIs (r q) 44 n (tv2 L E q)) := hrs
        have hlt0 := hrow.lt
        clear hrs
        by_cases hkW : k < wid L n
        · have hcell0 : wr.cell? ⟨w.heap.size, k, none⟩ = some (.slice none 0 0) := by rw [hrow.cell hkW]; simp [upto]
          have hfro0 := hrow.frozen k
          have hmk := run_make_row' (P := Trym.prog) 42 44 (.slice none 0 0) 24 Trym.underlying42 info44 rfl .i64 .i64 n (by omega) (by omega)
          clear hrow
          go_wp2
          clear hmk hcell0 hfro0
          obtain ⟨wo, hwo⟩ : ∃ wo : World, wo = wr := ⟨_, rfl⟩
          subst hwo
          have hs1 : (wo.setCell ⟨w.heap.size, k, none⟩ (.slice (some ⟨wo.heap.size, 0, none⟩) n n)).heap.size = wo.heap.size := by simp
          have HS1 : Hid ((wo.setCell ⟨w.heap.size, k, none⟩ (.slice (some ⟨wo.heap.size, 0, none⟩) n n)).heap.size = wo.heap.size) := hs1
          clear hs1
          go_loopw [36] (fun i wi => ∃ p : Nat, p ≤ n ∧ i = .int .i64 p ∧ wi.rowIs wo.heap.size 44 n (upto p (tv2 L E k)) ∧ Below wo.heap.size (wo.setCell ⟨w.heap.size, k, none⟩ (.slice (some ⟨wo.heap.size, 0, none⟩) n n)) wi) (fun i _ => n - (intOf i).toNat)
          case atStart =>
            refine ⟨0, by omega, rfl, (made_at _ _ n 44 HS1.out.symm).congr fun i _ => by simp [upto], ?_⟩
            exact (Below.refl _ _).alloc (by rw [HS1.out]; exact Nat.le_refl _) _
          case round =>
            obtain ⟨p, hp, rfl, hrow1, hbel1⟩ := hrel
            have HR1 : Hid (wr.rowIs wo.heap.size 44 n (upto p (tv2 L E k))) := hrow1
            have HBW : Below w.heap.size w wr := (hbel.setCell (Nat.le_refl _) _).trans (hbel1.mono (by omega))
            have hrow0 := (HR.out.set k (.slice (some ⟨wo.heap.size, 0, none⟩) n n)).of_block (hbel1.block w.heap.size hlt0)
            have HR0 : Hid (wr.rowIs w.heap.size 42 (wid L n) (fun j => if j = k then .slice (some ⟨wo.heap.size, 0, none⟩) n n else upto k (fun q => .slice (some ⟨r q, 0, none⟩) n n) j)) := hrow0
            by_cases hpn : p < n
            · cases a with
              | none => exact absurd (HS.out.2.1 rfl) (by omega)
              | some x =>
                obtain ⟨hxb, b, d, hc, hcs⟩ := HS.out.1 x rfl p hpn
                have hc' := (HBW.cell (p := x.add p) (by rw [add_block]; exact hxb)).trans hc
                have HCS : Hid (CellsIn lo wr b (L p) (E p)) := hcs.below HBW
                clear hc hcs
                by_cases hkL : k < L p
                · cases b with
                  | none => exact absurd (HCS.out.2 rfl) (by omega)
                  | some y =>
                    obtain ⟨b2, d2, hv, -⟩ := HS.out.2.2 p hpn k hkL
                    have HV : Hid (tv2 L E k p = .slice b2 (M p k) d2) := by show tv2 L E k p = _; unfold tv2; rw [if_pos hkL, hv]
                    have hce := (HCS.out.1 y rfl).2 k hkL
                    rw [hv] at hce
                    have hc0 : wr.cell? ⟨w.heap.size, k, none⟩ = some (.slice (some ⟨wo.heap.size, 0, none⟩) n n) := by rw [hrow0.cell hkW]; simp
                    have hc1 : wr.cell? ⟨wo.heap.size, p, none⟩ = some (.slice none 0 0) := by rw [hrow1.cell hpn]; simp [upto]
                    have hf1 := hrow1.frozen p
                    have i1 : (k : Int) < (wid L n : Int) := by omega
                    have i2 : (p : Int) < (n : Int) := by omega
                    have i3 : (k : Int) < (L p : Int) := by omega
                    clear hv hrow0 hrow1
                    go_wp2
                    go_region
                    all_goals
                      go_wp2
                      go_roundw
                      case rel =>
                        exact ⟨p + 1, by omega, by go_num, (HR1.out.set p (.slice b2 (M p k) d2)).congr fun i _ => upto_put p (tv2 L E k) _ i HV.out, (hbel1.setCell (Nat.le_refl _) _).drew⟩
                      case measure => simp [intOf]; omega
                · clear hrow0 hrow1
                  go_wp2
                  go_roundw
                  case rel =>
                    exact ⟨p + 1, by omega, by go_num, HR1.out.congr fun i _ => upto_more p (tv2 L E k) i (by unfold tv2; rw [if_neg hkL]), hbel1⟩
                  case measure => simp [intOf]; omega
            · have HF : Hid (wr.rowIs wo.heap.size 44 n (tv2 L E k)) := hrow1.congr fun i hi => upto_full _ i hi (by omega)
              clear hrow0 hrow1
              go_wp2
              go_roundw
              case rel =>
                refine ⟨k + 1, by omega, by go_num, fun q => if q = k then wo.heap.size else r q, HR0.out.congr fun i _ => ?_, fun q hq => ?_, HBW⟩
                · rw [upto_step]
                  unfold upto
                  by_cases e : i = k
                  · simp [e]
                  · simp [e]
                · by_cases e : q = k
                  · subst e
                    simp only [if_true]
                    exact ⟨hlt0, HF.out⟩
                  · simp only [if_neg e]
                    obtain ⟨q1, q2⟩ := HQ.out q (by omega)
                    exact ⟨q1, (q2.setOther (by show r q ≠ w.heap.size; omega) _).of_block (hbel1.block (r q) q2.lt)⟩
              case measure => simp [intOf]; omega
        · have HF : Hid (wr.rowIs w.heap.size 42 (wid L n) (fun q => .slice (some ⟨r q, 0, none⟩) n n)) := hrow.congr fun i hi => upto_full _ i hi (by omega)
          clear hrow
          go_wp2
          go_ret
          exact ⟨r, rfl, HF.out, fun q hq => HQ.out q (by omega), hbel⟩
end Go.Proofs.Qxb6602315aMods
