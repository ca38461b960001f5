import Derived.Test.Qxb6602315aModsBsA
import Derived.WalkKit
import Derived.WalkSpells
import Derived.WalkLawsBesides
namespace Go.Proofs.Qxb6602315aMods
open Go.RowKit

section
variable {lo : Nat} {w : World}

/-- Message p of a round, as it lies in its cell. -/
theorem Sent.row {x : Addr} {n c : Nat} {L : Nat → Nat} {M : Nat → Nat → Nat} {z : Nat → Nat → Nat → Nat} {nl : Nat → Nat → Bool} (h : Sent lo w (.slice (some x) n c) n L M z nl) (p : Nat) (hp : p < n) :
    ∃ b d, w.cell? (x.add p) = some (.slice b (L p) d) ∧ Msg lo w (.slice b (L p) d) (L p) (M p) (z p) (nl p) := by
  obtain ⟨a', c', U, e, hc, hm⟩ := h
  cases e
  have hm' := hm p hp
  obtain ⟨b, d, U', e', hc', hm''⟩ := hm'
  refine ⟨b, d, ?_, ⟨b, d, U', rfl, hc', hm''⟩⟩
  rw [(hc.1 x rfl).2 p hp, e']

theorem Sent.nought {n c : Nat} {L : Nat → Nat} {M : Nat → Nat → Nat} {z : Nat → Nat → Nat → Nat} {nl : Nat → Nat → Bool} (h : Sent lo w (.slice none n c) n L M z nl) : n = 0 := by
  obtain ⟨a', c', U, e, hc, hm⟩ := h
  cases e
  exact hc.2 rfl

/-- Entry k of a message, as it lies in its cell. -/
theorem Msg.ent {y : Addr} {l c : Nat} {M : Nat → Nat} {z : Nat → Nat → Nat} {nl : Nat → Bool} (h : Msg lo w (.slice (some y) l c) l M z nl) (k : Nat) (hk : k < l) :
    ∃ b d, w.cell? (y.add k) = some (.slice b (M k) d) ∧ Vec lo w (.slice b (M k) d) (M k) (z k) (nl k) := by
  obtain ⟨a', c', U, e, hc, hm⟩ := h
  cases e
  obtain ⟨b, d, e', h1, h2⟩ := hm k hk
  refine ⟨b, d, ?_, ⟨b, d, rfl, h1, h2⟩⟩
  rw [(hc.1 y rfl).2 k hk, e']

theorem Msg.nought {l c : Nat} {M : Nat → Nat} {z : Nat → Nat → Nat} {nl : Nat → Bool} (h : Msg lo w (.slice none l c) l M z nl) : l = 0 := by
  obtain ⟨a', c', U, e, hc, hm⟩ := h
  cases e
  exact hc.2 rfl
end

/-- The longest of the first n messages. -/
def wid (L : Nat → Nat) : Nat → Nat
  | 0 => 0
  | n + 1 => max (wid L n) (L n)

theorem wid_le (L : Nat → Nat) (n b : Nat) (h : ∀ p, p < n → L p ≤ b) : wid L n ≤ b := by
  induction n with
  | zero => exact Nat.zero_le _
  | succ n ih =>
    unfold wid
    have := ih (fun p hp => h p (by omega))
    have := h n (by omega)
    omega

theorem le_wid (L : Nat → Nat) (n p : Nat) (h : p < n) : L p ≤ wid L n := by
  induction n with
  | zero => omega
  | succ n ih =>
    unfold wid
    rcases Nat.lt_or_ge p n with h1 | h1
    · have := ih h1; omega
    · obtain rfl : p = n := by omega
      omega

set_option maxHeartbeats 1000000 in
theorem width_any (a : Option Addr) (n c lo : Nat) (L : Nat → Nat) (M : Nat → Nat → Nat) (z : Nat → Nat → Nat → Nat) (nl : Nat → Nat → Bool) (w : World) (h : Sent lo w (.slice a n c) n L M z nl) (hn : n ≤ 65536) :
    Calls Trym.prog 18 #[.slice a n c] w fun e w' => e = .returned (.int .i64 (wid L n)) ∧ w' = w := by
  have HS : Hid (Sent lo w (.slice a n c) n L M z nl) := h
  clear h
  go_enter Trym.func18, Trym.ntmps18
  go_wp2
  go_loop [3, 4] (fun s i => ∃ p : Nat, p ≤ n ∧ i = .int .i64 p ∧ s = .int .i64 (wid L p)) (fun _ i => n - (intOf i).toNat)
  case atStart => exact ⟨0, by omega, rfl, rfl⟩
  case round =>
    obtain ⟨p, hp, rfl, rfl⟩ := hrel
    by_cases hlt : p < n
    · cases a with
      | none => exact absurd HS.out.nought (by omega)
      | some x =>
        obtain ⟨b, d, hc, -⟩ := HS.out.row p hlt
        have HW : Hid (wid L (p + 1) = max (wid L p) (L p)) := rfl
        generalize wid L p = q at *
        by_cases hq : q < L p
        · go_wp2
          go_round
          case rel => exact ⟨p + 1, by omega, by go_num, by rw [HW.out]; go_num⟩
          case measure => simp [intOf]; omega
        · go_wp2
          go_round
          case rel => exact ⟨p + 1, by omega, by go_num, by rw [HW.out]; go_num⟩
          case measure => simp [intOf]; omega
    · obtain rfl : p = n := by omega
      go_wp2
      go_ret
      exact ⟨rfl, rfl⟩

end Go.Proofs.Qxb6602315aMods
