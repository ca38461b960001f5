import Derived.Test.Qxb6600435aModsBootB
import Derived.WalkKit
import Derived.WalkSpells
import Derived.WalkLawsBesides
import Derived.Deep.RegionLawGrows
namespace Go.Proofs.Qxb6600435aMods
open Go.RowKit

/-- Cell j of a row of attributes. -/
def at3 (nm vl : Nat → ByteArray) (j : Nat) : Value := if j % 3 = 0 then .string (nm (j / 3)) else if j % 3 = 1 then .string (vl (j / 3)) else .bool false

theorem Row3.at {w : World} {g n : Nat} {nm vl : Nat → ByteArray} (h : Row3 w g n nm vl) (j : Nat) (hj : j < 3 * n) : w.cell? ⟨g, j, none⟩ = some (at3 nm vl j) := by
  obtain ⟨a, b, c⟩ := h (j / 3) (by omega)
  unfold at3
  rcases (show j % 3 = 0 ∨ j % 3 = 1 ∨ j % 3 = 2 from by omega) with e | e | e
  · rw [if_pos e, ← a]; congr 2; omega
  · rw [if_neg (by omega), if_pos e, ← b]; congr 2; omega
  · rw [if_neg (by omega), if_neg (by omega), ← c]; congr 2; omega

theorem Row3.of {w : World} {g n : Nat} {nm vl : Nat → ByteArray} (h : ∀ j, j < 3 * n → w.cell? ⟨g, j, none⟩ = some (at3 nm vl j)) : Row3 w g n nm vl := by
  intro i hi
  have a := h (3 * i) (by omega)
  have b := h (3 * i + 1) (by omega)
  have c := h (3 * i + 2) (by omega)
  unfold at3 at a b c
  rw [if_pos (by omega), show 3 * i / 3 = i from by omega] at a
  rw [if_neg (by omega), if_pos (by omega), show (3 * i + 1) / 3 = i from by omega] at b
  rw [if_neg (by omega), if_neg (by omega)] at c
  exact ⟨a, b, c⟩

/-- The cells as a list. -/
def cells3 (n : Nat) (nm vl : Nat → ByteArray) : List Value := (List.range (3 * n)).map (at3 nm vl)

theorem cells3_get {n : Nat} {nm vl : Nat → ByteArray} {j : Nat} {u : Value} (h : (cells3 n nm vl)[j]? = some u) : j < 3 * n ∧ u = at3 nm vl j := by
  unfold cells3 at h
  rw [List.getElem?_map] at h
  by_cases hj : j < 3 * n
  · rw [List.getElem?_range hj] at h
    simp at h
    exact ⟨hj, h.symm⟩
  · rw [List.getElem?_eq_none (by simp; omega)] at h
    simp at h

theorem cells3_one {n : Nat} {nm vl : Nat → ByteArray} (u : Value) (h : u ∈ cells3 n nm vl) : u.oneCell' = true := by
  unfold cells3 at h
  simp only [List.mem_map] at h
  obtain ⟨j, _, rfl⟩ := h
  unfold at3
  split
  · rfl
  · split <;> rfl

theorem cells3_app (j : Nat) (nm vl : Nat → ByteArray) (hj : j < 30) : (cells3 3 nm vl ++ cells3 7 (fun i => nm (3 + i)) (fun i => vl (3 + i)))[j]? = some (at3 nm vl j) := by
  unfold cells3
  by_cases h : j < 9
  · rw [List.getElem?_append_left (by simp; omega), List.getElem?_map, List.getElem?_range (by omega)]
    rfl
  · rw [List.getElem?_append_right (by simp; omega), List.getElem?_map]
    simp only [List.length_map, List.length_range]
    rw [List.getElem?_range (by omega)]
    simp only [Option.map_some]
    have e1 : (j - 3 * 3) % 3 = j % 3 := by omega
    have e2 : 3 + (j - 3 * 3) / 3 = j / 3 := by omega
    simp only [at3, e1, e2]

theorem add_at (g j : Nat) : (⟨g, 0, none⟩ : Addr).add j = ⟨g, j, none⟩ := by
  by_cases h : j = 0
  · subst h; simp [Addr.add]
  · simp [Addr.add, h]

theorem info32 : (Trym.prog.info? 32).map (fun i => (i.zero, i.size, i.bytes)) = some (some (.agg #[.string ⟨#[]⟩, .string ⟨#[]⟩, .bool false]), 3, 40) := by kernel_rfl

theorem step_app {ops : Array Oper} {o : Oper} {a : Act} {K : Act → World → Prop} {Q : Exit → Act → World → Prop} {E : Prop} (W : World) (id : ByteArray) (g g9 : Nat)
    (hg : o.guard = none) (hop : o.op = Op.call { callee := Callee.builtin Builtin.append, args := #[.tmp 9, .tmp 11], argTypes := #[22, 22] }) (hd : o.dst = some 12)
    (h9 : a.eval (.tmp 9) = .slice (some ⟨g9, 0, none⟩) 3 3) (h11 : a.eval (.tmp 11) = .slice (some ⟨g, 0, none⟩) 7 7)
    (r3 : Row3 W g9 3 nameB (valB id)) (r7 : Row3 W g 7 (fun i => nameB (3 + i)) (fun i => valB id (3 + i)))
    (hK : ∀ g' cap w', Row3 w' g' 10 nameB (valB id) → g' < w'.heap.size → Below W.heap.size W w' → K (a.put (some 12) (.slice (some ⟨g', 0, none⟩) 10 cap)) w') :
    if Region.wanted o (yielded ops a.tmps) = true then Oper.wp Trym.prog o a W K Q else E := by
  obtain ⟨i0, hi, hz0, hz1, hz2⟩ := info_parts info32
  refine step_append_grows hg (.tmp 9) (.tmp 11) 22 hop 32 i0 _ 3 40 Trym.underlying22 hi hz0 hz1 hz2 rfl (by decide) (some ⟨g9, 0, none⟩) 3 3 (cells3 3 nameB (valB id)) h9 (by intro h; cases h) (by simp [cells3]) ?_
    ⟨g, 0, none⟩ 7 7 (cells3 7 (fun i => nameB (3 + i)) (fun i => valB id (3 + i))) h11 (by simp [cells3]) ?_ cells3_one (by decide) (by simp [maxLen]) (by decide) ?_
  · intro b hb j u hu
    cases hb
    obtain ⟨hj, rfl⟩ := cells3_get hu
    rw [add_at]; exact r3.at j hj
  · intro j u hu
    obtain ⟨hj, rfl⟩ := cells3_get hu
    rw [add_at]; exact r7.at j hj
  · intro v' w' hown hgrow
    rw [hd]
    obtain ⟨hlen, h | ⟨g', cap, cur, rfl, hg', hh, h1, h2, h3, h4⟩⟩ := hown
    · obtain ⟨_, h⟩ := h; omega
    · have hlt : g' < w'.heap.size := by
        rcases Nat.lt_or_ge g' w'.heap.size with h | h
        · exact h
        · rw [Array.getElem?_eq_none h] at hh; cases hh
      refine hK g' cap w' (Row3.of fun j hj => ?_) hlt ((Below.refl _ _).grown hgrow (Nat.le_refl _) (fun k hk => by cases hk))
      have hc := World.ownsRow.cellAt (w := w') (base := W.heap.size) (e := 32) (size := 3) (g := g') (cap := cap) (n := 10) (xs := cells3 3 nameB (valB id) ++ cells3 7 (fun i => nameB (3 + i)) (fun i => valB id (3 + i))) ⟨hlen, Or.inr ⟨g', cap, cur, rfl, hg', hh, h1, h2, h3, h4⟩⟩ j (by omega)
      rw [hc]
      exact cells3_app j nameB (valB id) (by omega)

end Go.Proofs.Qxb6600435aMods
