import Derived.Test.Qxb6600435aModsProg
import Derived.WalkKit
import Derived.WalkSpells
import Derived.WalkLawsBesides
namespace Go.Proofs.Qxb6600435aMods
open Go.RowKit

/-! The ten attribute names of the bootstrap identity, in the order in which Attribute meets them, and their values. -/
def nameB : Nat → ByteArray
  | 0 => ⟨#[104, 102, 46, 69, 110, 114, 111, 108, 108, 109, 101, 110, 116, 73, 68]⟩
  | 1 => ⟨#[104, 102, 46, 84, 121, 112, 101]⟩
  | 2 => ⟨#[104, 102, 46, 65, 102, 102, 105, 108, 105, 97, 116, 105, 111, 110]⟩
  | 3 => ⟨#[104, 102, 46, 82, 101, 103, 105, 115, 116, 114, 97, 114, 46, 82, 111, 108, 101, 115]⟩
  | 4 => ⟨#[104, 102, 46, 82, 101, 103, 105, 115, 116, 114, 97, 114, 46, 68, 101, 108, 101, 103, 97, 116, 101, 82, 111, 108, 101, 115]⟩
  | 5 => ⟨#[104, 102, 46, 82, 101, 103, 105, 115, 116, 114, 97, 114, 46, 65, 116, 116, 114, 105, 98, 117, 116, 101, 115]⟩
  | 6 => ⟨#[104, 102, 46, 82, 101, 118, 111, 107, 101, 114]⟩
  | 7 => ⟨#[104, 102, 46, 71, 101, 110, 67, 82, 76]⟩
  | 8 => ⟨#[104, 102, 46, 73, 110, 116, 101, 114, 109, 101, 100, 105, 97, 116, 101, 67, 65]⟩
  | 9 => ⟨#[104, 102, 46, 65, 102, 102, 105, 108, 105, 97, 116, 105, 111, 110, 77, 103, 114]⟩
  | _ => ⟨#[]⟩

def valB (id : ByteArray) : Nat → ByteArray
  | 0 => id
  | 1 => ⟨#[99, 108, 105, 101, 110, 116]⟩
  | 2 => ⟨#[]⟩
  | 3 => ⟨#[42]⟩
  | 4 => ⟨#[42]⟩
  | 5 => ⟨#[42]⟩
  | 6 => ⟨#[116, 114, 117, 101]⟩
  | 7 => ⟨#[116, 114, 117, 101]⟩
  | 8 => ⟨#[116, 114, 117, 101]⟩
  | 9 => ⟨#[116, 114, 117, 101]⟩
  | _ => ⟨#[]⟩

/-- Which of the ten a name is; 10: none. -/
def Idx (n : ByteArray) (K : Nat) : Prop := K ≤ 10 ∧ ∀ j, j < 10 → ((nameB j).toList == n.toList) = decide (j = K)

theorem Idx.at {n : ByteArray} {K : Nat} (h : Idx n K) (j : Nat) (hj : j < 10) : (n.toList == (nameB j).data.toList) = decide (j = K) := by
  rw [← h.2 j hj, ByteArray.toList_eq (nameB j), Bool.eq_iff_iff]
  simp only [beq_iff_eq]
  exact eq_comm

set_option maxHeartbeats 400000 in
theorem want_0 (n id : ByteArray) (w : World) (h0 : (n.toList == [104, 102, 46, 69, 110, 114, 111, 108, 108, 109, 101, 110, 116, 73, 68]) = true) :
    Calls Trym.prog 14 #[.string n, .string id] w fun e w' => e = .returned (.tuple #[.string id, .bool true]) ∧ w' = w := by
  go_enter Trym.func14, Trym.ntmps14
  go_wp2
  go_ret2
  exact ⟨rfl, rfl⟩

set_option maxHeartbeats 400000 in
theorem want_1 (n id : ByteArray) (w : World) (h0 : (n.toList == [104, 102, 46, 69, 110, 114, 111, 108, 108, 109, 101, 110, 116, 73, 68]) = false) (h1 : (n.toList == [104, 102, 46, 84, 121, 112, 101]) = true) :
    Calls Trym.prog 14 #[.string n, .string id] w fun e w' => e = .returned (.tuple #[.string ⟨#[99, 108, 105, 101, 110, 116]⟩, .bool true]) ∧ w' = w := by
  go_enter Trym.func14, Trym.ntmps14
  go_wp2
  go_ret2
  exact ⟨rfl, rfl⟩

set_option maxHeartbeats 400000 in
theorem want_2 (n id : ByteArray) (w : World) (h0 : (n.toList == [104, 102, 46, 69, 110, 114, 111, 108, 108, 109, 101, 110, 116, 73, 68]) = false) (h1 : (n.toList == [104, 102, 46, 84, 121, 112, 101]) = false) (h2 : (n.toList == [104, 102, 46, 65, 102, 102, 105, 108, 105, 97, 116, 105, 111, 110]) = true) :
    Calls Trym.prog 14 #[.string n, .string id] w fun e w' => e = .returned (.tuple #[.string ⟨#[]⟩, .bool true]) ∧ w' = w := by
  go_enter Trym.func14, Trym.ntmps14
  go_wp2
  go_ret2
  exact ⟨rfl, rfl⟩

set_option maxHeartbeats 400000 in
theorem want_3 (n id : ByteArray) (w : World) (h0 : (n.toList == [104, 102, 46, 69, 110, 114, 111, 108, 108, 109, 101, 110, 116, 73, 68]) = false) (h1 : (n.toList == [104, 102, 46, 84, 121, 112, 101]) = false) (h2 : (n.toList == [104, 102, 46, 65, 102, 102, 105, 108, 105, 97, 116, 105, 111, 110]) = false) (h3 : (n.toList == [104, 102, 46, 82, 101, 103, 105, 115, 116, 114, 97, 114, 46, 82, 111, 108, 101, 115]) = true) :
    Calls Trym.prog 14 #[.string n, .string id] w fun e w' => e = .returned (.tuple #[.string ⟨#[42]⟩, .bool true]) ∧ w' = w := by
  go_enter Trym.func14, Trym.ntmps14
  go_wp2
  go_ret2
  exact ⟨rfl, rfl⟩

set_option maxHeartbeats 400000 in
theorem want_4 (n id : ByteArray) (w : World) (h0 : (n.toList == [104, 102, 46, 69, 110, 114, 111, 108, 108, 109, 101, 110, 116, 73, 68]) = false) (h1 : (n.toList == [104, 102, 46, 84, 121, 112, 101]) = false) (h2 : (n.toList == [104, 102, 46, 65, 102, 102, 105, 108, 105, 97, 116, 105, 111, 110]) = false) (h3 : (n.toList == [104, 102, 46, 82, 101, 103, 105, 115, 116, 114, 97, 114, 46, 82, 111, 108, 101, 115]) = false) (h4 : (n.toList == [104, 102, 46, 82, 101, 103, 105, 115, 116, 114, 97, 114, 46, 68, 101, 108, 101, 103, 97, 116, 101, 82, 111, 108, 101, 115]) = true) :
    Calls Trym.prog 14 #[.string n, .string id] w fun e w' => e = .returned (.tuple #[.string ⟨#[42]⟩, .bool true]) ∧ w' = w := by
  go_enter Trym.func14, Trym.ntmps14
  go_wp2
  go_ret2
  exact ⟨rfl, rfl⟩

set_option maxHeartbeats 400000 in
theorem want_5 (n id : ByteArray) (w : World) (h0 : (n.toList == [104, 102, 46, 69, 110, 114, 111, 108, 108, 109, 101, 110, 116, 73, 68]) = false) (h1 : (n.toList == [104, 102, 46, 84, 121, 112, 101]) = false) (h2 : (n.toList == [104, 102, 46, 65, 102, 102, 105, 108, 105, 97, 116, 105, 111, 110]) = false) (h3 : (n.toList == [104, 102, 46, 82, 101, 103, 105, 115, 116, 114, 97, 114, 46, 82, 111, 108, 101, 115]) = false) (h4 : (n.toList == [104, 102, 46, 82, 101, 103, 105, 115, 116, 114, 97, 114, 46, 68, 101, 108, 101, 103, 97, 116, 101, 82, 111, 108, 101, 115]) = false) (h5 : (n.toList == [104, 102, 46, 82, 101, 103, 105, 115, 116, 114, 97, 114, 46, 65, 116, 116, 114, 105, 98, 117, 116, 101, 115]) = true) :
    Calls Trym.prog 14 #[.string n, .string id] w fun e w' => e = .returned (.tuple #[.string ⟨#[42]⟩, .bool true]) ∧ w' = w := by
  go_enter Trym.func14, Trym.ntmps14
  go_wp2
  go_ret2
  exact ⟨rfl, rfl⟩

set_option maxHeartbeats 400000 in
theorem want_6 (n id : ByteArray) (w : World) (h0 : (n.toList == [104, 102, 46, 69, 110, 114, 111, 108, 108, 109, 101, 110, 116, 73, 68]) = false) (h1 : (n.toList == [104, 102, 46, 84, 121, 112, 101]) = false) (h2 : (n.toList == [104, 102, 46, 65, 102, 102, 105, 108, 105, 97, 116, 105, 111, 110]) = false) (h3 : (n.toList == [104, 102, 46, 82, 101, 103, 105, 115, 116, 114, 97, 114, 46, 82, 111, 108, 101, 115]) = false) (h4 : (n.toList == [104, 102, 46, 82, 101, 103, 105, 115, 116, 114, 97, 114, 46, 68, 101, 108, 101, 103, 97, 116, 101, 82, 111, 108, 101, 115]) = false) (h5 : (n.toList == [104, 102, 46, 82, 101, 103, 105, 115, 116, 114, 97, 114, 46, 65, 116, 116, 114, 105, 98, 117, 116, 101, 115]) = false) (h6 : (n.toList == [104, 102, 46, 82, 101, 118, 111, 107, 101, 114]) = true) :
    Calls Trym.prog 14 #[.string n, .string id] w fun e w' => e = .returned (.tuple #[.string ⟨#[116, 114, 117, 101]⟩, .bool true]) ∧ w' = w := by
  go_enter Trym.func14, Trym.ntmps14
  go_wp2
  go_ret2
  exact ⟨rfl, rfl⟩

set_option maxHeartbeats 400000 in
theorem want_7 (n id : ByteArray) (w : World) (h0 : (n.toList == [104, 102, 46, 69, 110, 114, 111, 108, 108, 109, 101, 110, 116, 73, 68]) = false) (h1 : (n.toList == [104, 102, 46, 84, 121, 112, 101]) = false) (h2 : (n.toList == [104, 102, 46, 65, 102, 102, 105, 108, 105, 97, 116, 105, 111, 110]) = false) (h3 : (n.toList == [104, 102, 46, 82, 101, 103, 105, 115, 116, 114, 97, 114, 46, 82, 111, 108, 101, 115]) = false) (h4 : (n.toList == [104, 102, 46, 82, 101, 103, 105, 115, 116, 114, 97, 114, 46, 68, 101, 108, 101, 103, 97, 116, 101, 82, 111, 108, 101, 115]) = false) (h5 : (n.toList == [104, 102, 46, 82, 101, 103, 105, 115, 116, 114, 97, 114, 46, 65, 116, 116, 114, 105, 98, 117, 116, 101, 115]) = false) (h6 : (n.toList == [104, 102, 46, 82, 101, 118, 111, 107, 101, 114]) = false) (h7 : (n.toList == [104, 102, 46, 71, 101, 110, 67, 82, 76]) = true) :
    Calls Trym.prog 14 #[.string n, .string id] w fun e w' => e = .returned (.tuple #[.string ⟨#[116, 114, 117, 101]⟩, .bool true]) ∧ w' = w := by
  go_enter Trym.func14, Trym.ntmps14
  go_wp2
  go_ret2
  exact ⟨rfl, rfl⟩

set_option maxHeartbeats 400000 in
theorem want_8 (n id : ByteArray) (w : World) (h0 : (n.toList == [104, 102, 46, 69, 110, 114, 111, 108, 108, 109, 101, 110, 116, 73, 68]) = false) (h1 : (n.toList == [104, 102, 46, 84, 121, 112, 101]) = false) (h2 : (n.toList == [104, 102, 46, 65, 102, 102, 105, 108, 105, 97, 116, 105, 111, 110]) = false) (h3 : (n.toList == [104, 102, 46, 82, 101, 103, 105, 115, 116, 114, 97, 114, 46, 82, 111, 108, 101, 115]) = false) (h4 : (n.toList == [104, 102, 46, 82, 101, 103, 105, 115, 116, 114, 97, 114, 46, 68, 101, 108, 101, 103, 97, 116, 101, 82, 111, 108, 101, 115]) = false) (h5 : (n.toList == [104, 102, 46, 82, 101, 103, 105, 115, 116, 114, 97, 114, 46, 65, 116, 116, 114, 105, 98, 117, 116, 101, 115]) = false) (h6 : (n.toList == [104, 102, 46, 82, 101, 118, 111, 107, 101, 114]) = false) (h7 : (n.toList == [104, 102, 46, 71, 101, 110, 67, 82, 76]) = false) (h8 : (n.toList == [104, 102, 46, 73, 110, 116, 101, 114, 109, 101, 100, 105, 97, 116, 101, 67, 65]) = true) :
    Calls Trym.prog 14 #[.string n, .string id] w fun e w' => e = .returned (.tuple #[.string ⟨#[116, 114, 117, 101]⟩, .bool true]) ∧ w' = w := by
  go_enter Trym.func14, Trym.ntmps14
  go_wp2
  go_ret2
  exact ⟨rfl, rfl⟩

set_option maxHeartbeats 400000 in
theorem want_9 (n id : ByteArray) (w : World) (h0 : (n.toList == [104, 102, 46, 69, 110, 114, 111, 108, 108, 109, 101, 110, 116, 73, 68]) = false) (h1 : (n.toList == [104, 102, 46, 84, 121, 112, 101]) = false) (h2 : (n.toList == [104, 102, 46, 65, 102, 102, 105, 108, 105, 97, 116, 105, 111, 110]) = false) (h3 : (n.toList == [104, 102, 46, 82, 101, 103, 105, 115, 116, 114, 97, 114, 46, 82, 111, 108, 101, 115]) = false) (h4 : (n.toList == [104, 102, 46, 82, 101, 103, 105, 115, 116, 114, 97, 114, 46, 68, 101, 108, 101, 103, 97, 116, 101, 82, 111, 108, 101, 115]) = false) (h5 : (n.toList == [104, 102, 46, 82, 101, 103, 105, 115, 116, 114, 97, 114, 46, 65, 116, 116, 114, 105, 98, 117, 116, 101, 115]) = false) (h6 : (n.toList == [104, 102, 46, 82, 101, 118, 111, 107, 101, 114]) = false) (h7 : (n.toList == [104, 102, 46, 71, 101, 110, 67, 82, 76]) = false) (h8 : (n.toList == [104, 102, 46, 73, 110, 116, 101, 114, 109, 101, 100, 105, 97, 116, 101, 67, 65]) = false) (h9 : (n.toList == [104, 102, 46, 65, 102, 102, 105, 108, 105, 97, 116, 105, 111, 110, 77, 103, 114]) = true) :
    Calls Trym.prog 14 #[.string n, .string id] w fun e w' => e = .returned (.tuple #[.string ⟨#[116, 114, 117, 101]⟩, .bool true]) ∧ w' = w := by
  go_enter Trym.func14, Trym.ntmps14
  go_wp2
  go_ret2
  exact ⟨rfl, rfl⟩

set_option maxHeartbeats 400000 in
theorem want_10 (n id : ByteArray) (w : World) (h0 : (n.toList == [104, 102, 46, 69, 110, 114, 111, 108, 108, 109, 101, 110, 116, 73, 68]) = false) (h1 : (n.toList == [104, 102, 46, 84, 121, 112, 101]) = false) (h2 : (n.toList == [104, 102, 46, 65, 102, 102, 105, 108, 105, 97, 116, 105, 111, 110]) = false) (h3 : (n.toList == [104, 102, 46, 82, 101, 103, 105, 115, 116, 114, 97, 114, 46, 82, 111, 108, 101, 115]) = false) (h4 : (n.toList == [104, 102, 46, 82, 101, 103, 105, 115, 116, 114, 97, 114, 46, 68, 101, 108, 101, 103, 97, 116, 101, 82, 111, 108, 101, 115]) = false) (h5 : (n.toList == [104, 102, 46, 82, 101, 103, 105, 115, 116, 114, 97, 114, 46, 65, 116, 116, 114, 105, 98, 117, 116, 101, 115]) = false) (h6 : (n.toList == [104, 102, 46, 82, 101, 118, 111, 107, 101, 114]) = false) (h7 : (n.toList == [104, 102, 46, 71, 101, 110, 67, 82, 76]) = false) (h8 : (n.toList == [104, 102, 46, 73, 110, 116, 101, 114, 109, 101, 100, 105, 97, 116, 101, 67, 65]) = false) (h9 : (n.toList == [104, 102, 46, 65, 102, 102, 105, 108, 105, 97, 116, 105, 111, 110, 77, 103, 114]) = false) :
    Calls Trym.prog 14 #[.string n, .string id] w fun e w' => e = .returned (.tuple #[.string ⟨#[]⟩, .bool false]) ∧ w' = w := by
  go_enter Trym.func14, Trym.ntmps14
  go_wp2
  go_ret2
  exact ⟨rfl, rfl⟩

/-- bootWant, whatever the name. -/
theorem want_any (n id : ByteArray) (K : Nat) (w : World) (h : Idx n K) :
    Calls Trym.prog 14 #[.string n, .string id] w fun e w' => e = .returned (.tuple #[.string (valB id K), .bool (decide (K < 10))]) ∧ w' = w := by
  have h0 := h.at 0 (by omega)
  have h1 := h.at 1 (by omega)
  have h2 := h.at 2 (by omega)
  have h3 := h.at 3 (by omega)
  have h4 := h.at 4 (by omega)
  have h5 := h.at 5 (by omega)
  have h6 := h.at 6 (by omega)
  have h7 := h.at 7 (by omega)
  have h8 := h.at 8 (by omega)
  have h9 := h.at 9 (by omega)
  rcases (show K = 0 ∨ K = 1 ∨ K = 2 ∨ K = 3 ∨ K = 4 ∨ K = 5 ∨ K = 6 ∨ K = 7 ∨ K = 8 ∨ K = 9 ∨ K = 10 from by have := h.1; omega) with rfl | rfl | rfl | rfl | rfl | rfl | rfl | rfl | rfl | rfl | rfl
  · exact want_0 n id w h0
  · exact want_1 n id w h0 h1
  · exact want_2 n id w h0 h1 h2
  · exact want_3 n id w h0 h1 h2 h3
  · exact want_4 n id w h0 h1 h2 h3 h4
  · exact want_5 n id w h0 h1 h2 h3 h4 h5
  · exact want_6 n id w h0 h1 h2 h3 h4 h5 h6
  · exact want_7 n id w h0 h1 h2 h3 h4 h5 h6 h7
  · exact want_8 n id w h0 h1 h2 h3 h4 h5 h6 h7 h8
  · exact want_9 n id w h0 h1 h2 h3 h4 h5 h6 h7 h8 h9
  · exact want_10 n id w h0 h1 h2 h3 h4 h5 h6 h7 h8 h9

set_option maxHeartbeats 400000 in
theorem auth_3 (w : World) : Calls Trym.prog 13 #[.string ⟨#[104, 102, 46, 82, 101, 103, 105, 115, 116, 114, 97, 114, 46, 82, 111, 108, 101, 115]⟩] w fun e w' => e = .returned (.bool true) ∧ w' = w := by
  go_enter Trym.func13, Trym.ntmps13
  go_wp2
  go_ret
  exact ⟨rfl, rfl⟩

set_option maxHeartbeats 400000 in
theorem auth_4 (w : World) : Calls Trym.prog 13 #[.string ⟨#[104, 102, 46, 82, 101, 103, 105, 115, 116, 114, 97, 114, 46, 68, 101, 108, 101, 103, 97, 116, 101, 82, 111, 108, 101, 115]⟩] w fun e w' => e = .returned (.bool true) ∧ w' = w := by
  go_enter Trym.func13, Trym.ntmps13
  go_wp2
  go_ret
  exact ⟨rfl, rfl⟩

set_option maxHeartbeats 400000 in
theorem auth_5 (w : World) : Calls Trym.prog 13 #[.string ⟨#[104, 102, 46, 82, 101, 103, 105, 115, 116, 114, 97, 114, 46, 65, 116, 116, 114, 105, 98, 117, 116, 101, 115]⟩] w fun e w' => e = .returned (.bool true) ∧ w' = w := by
  go_enter Trym.func13, Trym.ntmps13
  go_wp2
  go_ret
  exact ⟨rfl, rfl⟩

set_option maxHeartbeats 400000 in
theorem auth_6 (w : World) : Calls Trym.prog 13 #[.string ⟨#[104, 102, 46, 82, 101, 118, 111, 107, 101, 114]⟩] w fun e w' => e = .returned (.bool true) ∧ w' = w := by
  go_enter Trym.func13, Trym.ntmps13
  go_wp2
  go_ret
  exact ⟨rfl, rfl⟩

set_option maxHeartbeats 400000 in
theorem auth_7 (w : World) : Calls Trym.prog 13 #[.string ⟨#[104, 102, 46, 71, 101, 110, 67, 82, 76]⟩] w fun e w' => e = .returned (.bool true) ∧ w' = w := by
  go_enter Trym.func13, Trym.ntmps13
  go_wp2
  go_ret
  exact ⟨rfl, rfl⟩

set_option maxHeartbeats 400000 in
theorem auth_8 (w : World) : Calls Trym.prog 13 #[.string ⟨#[104, 102, 46, 73, 110, 116, 101, 114, 109, 101, 100, 105, 97, 116, 101, 67, 65]⟩] w fun e w' => e = .returned (.bool true) ∧ w' = w := by
  go_enter Trym.func13, Trym.ntmps13
  go_wp2
  go_ret
  exact ⟨rfl, rfl⟩

set_option maxHeartbeats 400000 in
theorem auth_9 (w : World) : Calls Trym.prog 13 #[.string ⟨#[104, 102, 46, 65, 102, 102, 105, 108, 105, 97, 116, 105, 111, 110, 77, 103, 114]⟩] w fun e w' => e = .returned (.bool true) ∧ w' = w := by
  go_enter Trym.func13, Trym.ntmps13
  go_wp2
  go_ret
  exact ⟨rfl, rfl⟩

/-- isAuthority at the seven. -/
theorem auth_any (i : Nat) (w : World) (hi : i < 7) : Calls Trym.prog 13 #[.string (nameB (3 + i))] w fun e w' => e = .returned (.bool true) ∧ w' = w := by
  rcases (show i = 0 ∨ i = 1 ∨ i = 2 ∨ i = 3 ∨ i = 4 ∨ i = 5 ∨ i = 6 from by omega) with rfl | rfl | rfl | rfl | rfl | rfl | rfl
  · exact auth_3 w
  · exact auth_4 w
  · exact auth_5 w
  · exact auth_6 w
  · exact auth_7 w
  · exact auth_8 w
  · exact auth_9 w

theorem idx_name (k : Nat) (hk : k < 10) : Idx (nameB k) k := by
  refine ⟨by omega, fun j hj => ?_⟩
  rcases (show k = 0 ∨ k = 1 ∨ k = 2 ∨ k = 3 ∨ k = 4 ∨ k = 5 ∨ k = 6 ∨ k = 7 ∨ k = 8 ∨ k = 9 from by omega) with rfl | rfl | rfl | rfl | rfl | rfl | rfl | rfl | rfl | rfl
  all_goals
    rcases (show j = 0 ∨ j = 1 ∨ j = 2 ∨ j = 3 ∨ j = 4 ∨ j = 5 ∨ j = 6 ∨ j = 7 ∨ j = 8 ∨ j = 9 from by omega) with rfl | rfl | rfl | rfl | rfl | rfl | rfl | rfl | rfl | rfl
  all_goals
    simp only [ByteArray.toList_eq]
    decide

/-- Every name has an index. -/
theorem idx_any (n : ByteArray) : ∃ K, Idx n K := by
  by_cases h : ∃ k, k < 10 ∧ nameB k = n
  · obtain ⟨k, hk, rfl⟩ := h
    exact ⟨k, idx_name k hk⟩
  · refine ⟨10, by omega, fun j hj => ?_⟩
    have hne : ¬ (nameB j).toList = n.toList := by
      intro e
      rw [ByteArray.toList_eq, ByteArray.toList_eq] at e
      exact h ⟨j, hj, ByteArray.ext (Array.toList_inj.1 e)⟩
    have h2 : decide (j = 10) = false := by simp; omega
    rw [h2]
    simpa using hne

theorem bytes_any (a b : ByteArray) (c : Int) (w : World) (ha : a.size ≤ maxLen) (hb : b.size ≤ maxLen) :
    Calls Trym.prog 11 #[.string a, .string b, .int .i64 c] w fun e w' => (e = .returned (.bool true) ∨ e = .returned (.bool false)) ∧ w = w' := by
  unfold maxLen at ha hb
  go_enter Trym.func11, Trym.ntmps11
  go_wp2
  all_goals
    go_ret
    first | exact ⟨Or.inl rfl, rfl⟩ | exact ⟨Or.inr rfl, rfl⟩

end Go.Proofs.Qxb6600435aMods
