import Derived.Test.Qxb6602315aModsProg
import Derived.WalkKit
import Derived.Deep.OwnRows
namespace Go.Proofs.Qxb6602315aMods
open Go.RowKit

/-! How a round of messages lies in memory: a slice of slices of slices of floats, each level by its length and its values; 'lo': no cell of it lies in a block below. -/

theorem add_block (x : Addr) (i : Nat) : (x.add i).block = x.block := by rw [Addr.add]; split <;> rfl

def CellsIn (lo : Nat) (w : World) (a : Option Addr) (n : Nat) (U : Nat → Value) : Prop :=
  (∀ x, a = some x → (0 < n → lo ≤ x.block ∧ x.block < w.heap.size) ∧ ∀ i, i < n → w.cell? (x.add i) = some (U i)) ∧ (a = none → n = 0)

def Vec (lo : Nat) (w : World) (v : Value) (m : Nat) (z : Nat → Nat) (nil : Bool) : Prop :=
  ∃ a c, v = .slice a m c ∧ a.isNone = nil ∧ CellsIn lo w a m (fun i => .float .f64 (z i))

def Msg (lo : Nat) (w : World) (v : Value) (l : Nat) (M : Nat → Nat) (z : Nat → Nat → Nat) (nl : Nat → Bool) : Prop :=
  ∃ a c U, v = .slice a l c ∧ CellsIn lo w a l U ∧ ∀ k, k < l → Vec lo w (U k) (M k) (z k) (nl k)

def Sent (lo : Nat) (w : World) (v : Value) (n : Nat) (L : Nat → Nat) (M : Nat → Nat → Nat) (z : Nat → Nat → Nat → Nat) (nl : Nat → Nat → Bool) : Prop :=
  ∃ a c U, v = .slice a n c ∧ CellsIn lo w a n U ∧ ∀ p, p < n → Msg lo w (U p) (L p) (M p) (z p) (nl p)

section
variable {lo : Nat} {w w' : World}

theorem CellsIn.below {a : Option Addr} {n : Nat} {U : Nat → Value} (h : CellsIn lo w a n U) (hb : Below w.heap.size w w') : CellsIn lo w' a n U := by
  refine ⟨fun x hx => ?_, h.2⟩
  obtain ⟨h1, h2⟩ := h.1 x hx
  refine ⟨fun h0 => ⟨(h1 h0).1, Nat.lt_of_lt_of_le (h1 h0).2 hb.size⟩, fun i hi => ?_⟩
  rw [hb.cell (by rw [add_block]; exact (h1 (by omega)).2), h2 i hi]

theorem CellsIn.set {a : Option Addr} {n : Nat} {U : Nat → Value} (h : CellsIn lo w a n U) {g : Nat} (hg : g < lo) (i : Nat) (v : Value) : CellsIn lo (w.setCell ⟨g, i, none⟩ v) a n U := by
  refine ⟨fun x hx => ?_, h.2⟩
  obtain ⟨h1, h2⟩ := h.1 x hx
  refine ⟨fun h0 => ⟨(h1 h0).1, by simpa using (h1 h0).2⟩, fun j hj => ?_⟩
  have hne : (x.add j).block ≠ g := by have := (h1 (by omega)).1; rw [add_block]; omega
  rw [← h2 j hj]
  exact World.cell?_of_block (Below.heap_setCell w ⟨g, i, none⟩ v _ hne)

theorem CellsIn.mono {lo' : Nat} {a : Option Addr} {n : Nat} {U : Nat → Value} (h : CellsIn lo w a n U) (hl : lo' ≤ lo) : CellsIn lo' w a n U :=
  ⟨fun x hx => ⟨fun h0 => ⟨Nat.le_trans hl ((h.1 x hx).1 h0).1, ((h.1 x hx).1 h0).2⟩, (h.1 x hx).2⟩, h.2⟩

theorem Vec.below {v : Value} {m : Nat} {z : Nat → Nat} {nil : Bool} (h : Vec lo w v m z nil) (hb : Below w.heap.size w w') : Vec lo w' v m z nil := by
  obtain ⟨a, c, h1, h2, h3⟩ := h
  exact ⟨a, c, h1, h2, h3.below hb⟩
theorem Vec.set {v : Value} {m : Nat} {z : Nat → Nat} {nil : Bool} (h : Vec lo w v m z nil) {g : Nat} (hg : g < lo) (i : Nat) (u : Value) : Vec lo (w.setCell ⟨g, i, none⟩ u) v m z nil := by
  obtain ⟨a, c, h1, h2, h3⟩ := h
  exact ⟨a, c, h1, h2, h3.set hg i u⟩
theorem Vec.mono {lo' : Nat} {v : Value} {m : Nat} {z : Nat → Nat} {nil : Bool} (h : Vec lo w v m z nil) (hl : lo' ≤ lo) : Vec lo' w v m z nil := by
  obtain ⟨a, c, h1, h2, h3⟩ := h
  exact ⟨a, c, h1, h2, h3.mono hl⟩
theorem Vec.none (z : Nat → Nat) : Vec lo w (.slice Option.none 0 0) 0 z true :=
  ⟨Option.none, 0, rfl, rfl, ⟨(fun x hx => by cases hx), fun _ => rfl⟩⟩

theorem Msg.below {v : Value} {l : Nat} {M : Nat → Nat} {z : Nat → Nat → Nat} {nl : Nat → Bool} (h : Msg lo w v l M z nl) (hb : Below w.heap.size w w') : Msg lo w' v l M z nl := by
  obtain ⟨a, c, U, h1, h2, h3⟩ := h
  exact ⟨a, c, U, h1, h2.below hb, fun k hk => (h3 k hk).below hb⟩
theorem Msg.set {v : Value} {l : Nat} {M : Nat → Nat} {z : Nat → Nat → Nat} {nl : Nat → Bool} (h : Msg lo w v l M z nl) {g : Nat} (hg : g < lo) (i : Nat) (u : Value) : Msg lo (w.setCell ⟨g, i, none⟩ u) v l M z nl := by
  obtain ⟨a, c, U, h1, h2, h3⟩ := h
  exact ⟨a, c, U, h1, h2.set hg i u, fun k hk => (h3 k hk).set hg i u⟩
theorem Msg.mono {lo' : Nat} {v : Value} {l : Nat} {M : Nat → Nat} {z : Nat → Nat → Nat} {nl : Nat → Bool} (h : Msg lo w v l M z nl) (hl : lo' ≤ lo) : Msg lo' w v l M z nl := by
  obtain ⟨a, c, U, h1, h2, h3⟩ := h
  exact ⟨a, c, U, h1, h2.mono hl, fun k hk => (h3 k hk).mono hl⟩

theorem Sent.below {v : Value} {n : Nat} {L : Nat → Nat} {M : Nat → Nat → Nat} {z : Nat → Nat → Nat → Nat} {nl : Nat → Nat → Bool} (h : Sent lo w v n L M z nl) (hb : Below w.heap.size w w') : Sent lo w' v n L M z nl := by
  obtain ⟨a, c, U, h1, h2, h3⟩ := h
  exact ⟨a, c, U, h1, h2.below hb, fun k hk => (h3 k hk).below hb⟩
theorem Sent.mono {lo' : Nat} {v : Value} {n : Nat} {L : Nat → Nat} {M : Nat → Nat → Nat} {z : Nat → Nat → Nat → Nat} {nl : Nat → Nat → Bool} (h : Sent lo w v n L M z nl) (hl : lo' ≤ lo) : Sent lo' w v n L M z nl := by
  obtain ⟨a, c, U, h1, h2, h3⟩ := h
  exact ⟨a, c, U, h1, h2.mono hl, fun k hk => (h3 k hk).mono hl⟩

/-- A row of one's own, as cells. -/
theorem cells_row {g n : Nat} {t : TypeId} {f : Nat → Value} (h : w.rowIs g t n f) (hg : lo ≤ g) : CellsIn lo w (some ⟨g, 0, Option.none⟩) n f := by
  refine ⟨fun x hx => ?_, fun e => by cases e⟩
  cases hx
  refine ⟨fun _ => ⟨hg, h.lt⟩, fun i hi => ?_⟩
  have e : (⟨g, 0, Option.none⟩ : Addr).add i = ⟨g, i, Option.none⟩ := by
    by_cases h0 : i = 0
    · subst h0; simp [Addr.add]
    · simp [Addr.add, h0]
  rw [e]
  exact h.cell hi

end
end Go.Proofs.Qxb6602315aMods
