import Derived.Test.Qxb6602315aModsBsC
import Derived.WalkKit
import Derived.WalkSpells
import Derived.WalkLawsBesides
namespace Go.Proofs.Qxb6602315aMods
open Go.RowKit

set_option maxHeartbeats 2000000 in
theorem sbytes_any (a : Option Addr) (n c lo : Nat) (L : Nat → Nat) (M : Nat → Nat → Nat) (z : Nat → Nat → Nat → Nat) (nl : Nat → Nat → Bool) (w : World) (h : Sent lo w (.slice a n c) n L M z nl) :
    Calls Trym.prog 15 #[.slice a n c] w fun e w' => (e = .returned (.bool true) ∨ e = .returned (.bool false)) ∧ w = w' := by
  have HS : Hid (Sent lo w (.slice a n c) n L M z nl) := h
  clear h
  by_cases hn : 1048576 < n
  · go_enter Trym.func15, Trym.ntmps15
    go_wp2
    go_ret
    exact ⟨Or.inr rfl, rfl⟩
  go_enter Trym.func15, Trym.ntmps15
  go_wp2
  go_loop [3, 4] (fun s i => ∃ t p : Nat, t ≤ 1048576 ∧ p ≤ n ∧ i = .int .i64 p ∧ s = .int .i64 t) (fun _ i => n - (intOf i).toNat)
  case atStart => exact ⟨n, 0, by omega, by omega, rfl, by go_num⟩
  case round =>
    obtain ⟨t, p, ht, hp, rfl, rfl⟩ := hrel
    by_cases hlt : p < n
    · cases a with
      | none => exact absurd HS.out.nought (by omega)
      | some x =>
        obtain ⟨b, d, hc, hm⟩ := HS.out.row p hlt
        have HM : Hid (Msg lo w (.slice b (L p) d) (L p) (M p) (z p) (nl p)) := hm
        clear hm
        by_cases h1 : 1048576 < L p
        · go_wp2
          go_ret
          exact ⟨Or.inr rfl, rfl⟩
        by_cases h2 : 1048576 < t + L p
        · go_wp2
          go_ret
          exact ⟨Or.inr rfl, rfl⟩
        go_wp2
        go_loop [3, 5] (fun s i => ∃ t k : Nat, t ≤ 1048576 ∧ k ≤ L p ∧ i = .int .i64 k ∧ s = .int .i64 t) (fun _ i => L p - (intOf i).toNat)
        case atStart => exact ⟨t + L p, 0, by omega, by omega, rfl, by go_num⟩
        case round =>
          obtain ⟨t', k, ht', hk, rfl, rfl⟩ := hrel
          by_cases hkl : k < L p
          · cases b with
            | none => exact absurd HM.out.nought (by omega)
            | some y =>
              obtain ⟨b2, d2, hc2, -⟩ := HM.out.ent k hkl
              by_cases h3 : 1048576 < M p k
              · go_wp2
                go_ret
                exact ⟨Or.inr rfl, rfl⟩
              by_cases h4 : 1048576 < t' + M p k
              · go_wp2
                go_ret
                exact ⟨Or.inr rfl, rfl⟩
              go_wp2
              go_round
              case rel => exact ⟨t' + M p k, k + 1, by omega, by omega, by go_num, by go_num⟩
              case measure => simp [intOf]; omega
          · go_wp2
            go_round
            case rel => exact ⟨t', p + 1, by omega, by omega, by go_num, rfl⟩
            case measure => simp [intOf]; omega
    · go_wp2
      go_ret
      exact ⟨Or.inl rfl, rfl⟩

/-- What the size guard has let by. -/
def Small (n : Nat) (L : Nat → Nat) (M : Nat → Nat → Nat) : Prop := n ≤ 65536 ∧ ∀ p, p < n → L p ≤ 65536 ∧ ∀ k, k < L p → M p k ≤ 131072

set_option maxHeartbeats 2000000 in
theorem big_any (a : Option Addr) (n c lo : Nat) (L : Nat → Nat) (M : Nat → Nat → Nat) (z : Nat → Nat → Nat → Nat) (nl : Nat → Nat → Bool) (w : World) (h : Sent lo w (.slice a n c) n L M z nl) :
    Calls Trym.prog 16 #[.slice a n c] w fun e w' => (e = .returned (.bool true) ∨ (e = .returned (.bool false) ∧ Small n L M)) ∧ w = w' := by
  have HS : Hid (Sent lo w (.slice a n c) n L M z nl) := h
  clear h
  by_cases hn : 65536 < n
  · go_enter Trym.func16, Trym.ntmps16
    go_wp2
    go_ret
    exact ⟨Or.inl rfl, rfl⟩
  go_enter Trym.func16, Trym.ntmps16
  go_wp2
  go_loop [3, 4, 5] (fun s v i => ∃ t q p : Nat, t ≤ 2097152 ∧ q ≤ 65536 ∧ p ≤ n ∧ (∀ r, r < p → L r ≤ 65536 ∧ ∀ k, k < L r → M r k ≤ 131072) ∧ i = .int .i64 p ∧ v = .int .i64 q ∧ s = .int .i64 t) (fun _ _ i => n - (intOf i).toNat)
  case atStart => exact ⟨24 * n, 0, 0, by omega, by omega, by omega, fun r hr => absurd hr (by omega), rfl, rfl, by go_num⟩
  case round =>
    obtain ⟨t, q, p, ht, hq, hp, hs, rfl, rfl, rfl⟩ := hrel
    have HQ : Hid (∀ r, r < p → L r ≤ 65536 ∧ ∀ k, k < L r → M r k ≤ 131072) := hs
    clear hs
    by_cases hlt : p < n
    · cases a with
      | none => exact absurd HS.out.nought (by omega)
      | some x =>
        obtain ⟨b, d, hc, hm⟩ := HS.out.row p hlt
        have HM : Hid (Msg lo w (.slice b (L p) d) (L p) (M p) (z p) (nl p)) := hm
        clear hm
        by_cases h1 : 65536 < L p
        · go_wp2
          go_ret
          exact ⟨Or.inl rfl, rfl⟩
        by_cases h2 : 1048576 < t + 24 * L p
        · go_wp2
          go_ret
          exact ⟨Or.inl rfl, rfl⟩
        by_cases h3 : q < L p
        all_goals
          go_wp2
          go_loop [3, 7] (fun s i => ∃ t k : Nat, t ≤ 1048576 ∧ k ≤ L p ∧ (∀ j, j < k → M p j ≤ 131072) ∧ i = .int .i64 k ∧ s = .int .i64 t) (fun _ i => L p - (intOf i).toNat)
          case atStart => exact ⟨t + 24 * L p, 0, by omega, by omega, fun j hj => absurd hj (by omega), rfl, by go_num⟩
          case round =>
            obtain ⟨t', k, ht', hk, hs', rfl, rfl⟩ := hrel
            have HK : Hid (∀ j, j < k → M p j ≤ 131072) := hs'
            clear hs'
            by_cases hkl : k < L p
            · cases b with
              | none => exact absurd HM.out.nought (by omega)
              | some y =>
                obtain ⟨b2, d2, hc2, -⟩ := HM.out.ent k hkl
                by_cases h4 : 131072 < M p k
                · go_wp2
                  go_ret
                  exact ⟨Or.inl rfl, rfl⟩
                by_cases h5 : 1048576 < t' + 8 * M p k
                · go_wp2
                  go_ret
                  exact ⟨Or.inl rfl, rfl⟩
                go_wp2
                go_round
                case rel =>
                  refine ⟨t' + 8 * M p k, k + 1, by omega, by omega, fun j hj => ?_, by go_num, by go_num⟩
                  rcases Nat.lt_or_ge j k with e | e
                  · exact HK.out j e
                  · rw [show j = k from by omega]; omega
                case measure => simp [intOf]; omega
            · go_wp2
              go_round
              case rel =>
                refine ⟨t', _, p + 1, by omega, ?_, by omega, fun r hr => ?_, by go_num, rfl, rfl⟩
                · omega
                · rcases Nat.lt_or_ge r p with e | e
                  · exact HQ.out r e
                  · obtain rfl : r = p := by omega
                    exact ⟨by omega, fun j hj => HK.out j (by omega)⟩
              case measure => simp [intOf]; omega
    · have hfin : Hid (Small n L M) := ⟨by omega, fun r hr => HQ.out r (by omega)⟩
      by_cases hq0 : q = 0
      · subst hq0
        go_wp2
        go_ret
        exact ⟨Or.inr ⟨rfl, hfin.out⟩, rfl⟩
      · have hq1 : 0 < (q : Int) := by omega
        by_cases h6 : 1048576 / (q : Int) < (n : Int)
        · go_wp2
          go_ret
          exact ⟨Or.inl rfl, rfl⟩
        · go_wp2
          go_ret
          exact ⟨Or.inr ⟨rfl, hfin.out⟩, rfl⟩

end Go.Proofs.Qxb6602315aMods
