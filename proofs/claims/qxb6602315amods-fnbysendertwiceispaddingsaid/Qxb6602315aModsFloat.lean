import Derived.Laws.FloatArith
namespace Go.Proofs.Qxb6602315aMods.Fl

theorem sw : Ieee.double.signWeight = 9223372036854775808 := by decide
theorem bn : Ieee.double.binade = 4503599627370496 := by decide
theorem ir : Ieee.double.infRung = 9218868437227405312 := by decide
theorem lp : Ieee.double.leastPlace = -1074 := by decide
theorem fb : Ieee.double.fractionBits = 52 := by decide

theorem cut0 (neg : Bool) (n : Nat) : Ieee.Toward.even.cut neg n 0 = n := by
  simp [Ieee.Toward.cut, Nat.mod_one]

theorem cutk (neg : Bool) (m k : Nat) (hm : 0 < m) : Ieee.Toward.even.cut neg (m <<< k) k = m := by
  have hp : 0 < 2 ^ k := Nat.two_pow_pos k
  have hl : k ≤ (m <<< k).log2 := by
    rw [Nat.shiftLeft_eq]
    exact (Nat.le_log2 (by have := Nat.mul_pos hm hp; omega)).2 (Nat.le_mul_of_pos_left _ hm)
  have hg : 1 <<< min k ((m <<< k).log2 + 2) = 2 ^ k := by
    rw [Nat.min_eq_left (by omega), Nat.shiftLeft_eq]; omega
  unfold Ieee.Toward.cut
  simp only [hg]
  rw [Nat.shiftLeft_eq, Nat.mul_mod_left, Nat.mul_div_cancel _ hp]
  have h0 : ((2 : Nat) ^ k == 0) = false := by simp
  simp

theorem log2k (m k : Nat) (h1 : 4503599627370496 ≤ m) (h2 : m < 9007199254740992) : (m <<< k).log2 = 52 + k := by
  have hp : 0 < 2 ^ k := Nat.two_pow_pos k
  have hpos : m <<< k ≠ 0 := by rw [Nat.shiftLeft_eq]; have := Nat.mul_pos (show 0 < m by omega) hp; omega
  rw [Nat.log2_eq_iff hpos, Nat.shiftLeft_eq]
  constructor
  · rw [Nat.pow_add]; exact Nat.mul_le_mul_right _ h1
  · rw [show 52 + k + 1 = 53 + k by omega, Nat.pow_add]; exact Nat.mul_lt_mul_of_pos_right h2 hp

theorem nearest_low (neg : Bool) (m : Nat) (h0 : m ≠ 0) (h2 : m < 9007199254740992) :
    Ieee.double.nearest neg m (-1074) = Ieee.double.word neg m := by
  have hl : m.log2 ≤ 52 := by
    have : m.log2 < 53 := (Nat.log2_lt h0).2 h2
    omega
  unfold Ieee.Format.nearest
  rw [if_neg h0]
  simp only [lp, fb, bn, ir]
  have e : max ((-1074 : Int) + (m.log2 : Int) - ((52 : Nat) : Int)) (-1074) = -1074 := by omega
  rw [e]
  simp only [Int.sub_self, Int.toNat_zero, Nat.shiftLeft_zero, cut0, Nat.zero_mul, Nat.zero_add]
  rw [Nat.min_eq_left (by omega)]

theorem nearest_high (neg : Bool) (m k : Nat) (h1 : 4503599627370496 ≤ m) (h2 : m < 9007199254740992) (hk : k ≤ 2045) :
    Ieee.double.nearest neg (m <<< k) (-1074) = Ieee.double.word neg (k * 4503599627370496 + m) := by
  have hp : 0 < 2 ^ k := Nat.two_pow_pos k
  have hpos : m <<< k ≠ 0 := by rw [Nat.shiftLeft_eq]; have := Nat.mul_pos (show 0 < m by omega) hp; omega
  unfold Ieee.Format.nearest
  rw [if_neg hpos]
  simp only [lp, fb, bn, ir, log2k m k h1 h2]
  have e : max ((-1074 : Int) + ((52 + k : Nat) : Int) - ((52 : Nat) : Int)) (-1074) = -1074 + (k : Int) := by omega
  rw [e]
  have e1 : ((-1074 : Int) - (-1074 + (k : Int))).toNat = 0 := by omega
  have e2 : ((-1074 : Int) + (k : Int) - (-1074)).toNat = k := by omega
  rw [e1, e2, Nat.shiftLeft_zero, cutk neg m k (by omega)]
  rw [Nat.min_eq_left (by omega)]

/-- The bits of a finite number. -/
def fin (x : Nat) : Bool := decide (x % 9223372036854775808 < 9218868437227405312)

/-- Reading a finite number: sign, significand and its shift over the least place. -/
theorem read_fin (x : Nat) (hx : x < 18446744073709551616) (h : fin x = true) :
    ∃ (s : Bool) (m k : Nat), Ieee.double.read x = .number s m (-1074 + (k : Int)) ∧ s = decide (9223372036854775808 ≤ x) ∧
      (m = 0 → x % 9223372036854775808 = 0) ∧ (x % 9223372036854775808 = 0 → m = 0) ∧
      (m ≠ 0 → ∀ neg, Ieee.double.nearest neg (m <<< k) (-1074) = Ieee.double.word neg (x % 9223372036854775808)) := by
  unfold fin at h
  simp only [decide_eq_true_eq] at h
  have hs : (x / 9223372036854775808 % 2 == 1) = decide (9223372036854775808 ≤ x) := by
    rw [Bool.eq_iff_iff]; simp; omega
  unfold Ieee.Format.read
  simp only [sw, bn, ir, lp, hs]
  by_cases hb : x % 9223372036854775808 < 4503599627370496
  · refine ⟨_, x % 9223372036854775808, 0, ?_, rfl, fun h => h, fun h => h, fun hm neg => ?_⟩
    · rw [if_pos hb]; rfl
    · rw [Nat.shiftLeft_zero]; exact nearest_low neg _ hm (by omega)
  · refine ⟨_, 4503599627370496 + x % 9223372036854775808 % 4503599627370496, x % 9223372036854775808 / 4503599627370496 - 1, ?_, rfl, fun h => by omega, fun h => by omega, fun hm neg => ?_⟩
    · rw [if_neg hb, if_pos h]
    · rw [nearest_high neg _ _ (by omega) (by omega) (by omega)]
      congr 1
      omega

theorem read_inf (x : Nat) (h : fin x = false) : (∃ s, Ieee.double.read x = .infinity s) ∨ (∃ s t, Ieee.double.read x = .nan s t) := by
  unfold fin at h
  simp only [decide_eq_false_iff_not] at h
  unfold Ieee.Format.read
  simp only [sw, bn, ir]
  rw [if_neg (by omega), if_neg h]
  split
  · exact Or.inl ⟨_, rfl⟩
  · exact Or.inr ⟨_, _, rfl⟩

theorem read_zero : Ieee.double.read 0 = .number false 0 (-1074) := by decide

/-- What '0 + x' gives: x, but of a negative zero the positive one. -/
def keep (x : Nat) : Nat := if x = 9223372036854775808 then 0 else x

def flip (x : Nat) : Nat := x ^^^ 9223372036854775808

theorem flip_eq (x : Nat) (hx : x < 18446744073709551616) : flip x = if 9223372036854775808 ≤ x then x - 9223372036854775808 else x + 9223372036854775808 := by
  have key : ∀ (r : Nat), r < 2 ^ 63 → r ^^^ 2 ^ 63 = r + 2 ^ 63 := by
    intro r hr
    apply Nat.eq_of_testBit_eq
    intro i
    rw [Nat.testBit_xor, Nat.testBit_two_pow, Nat.add_comm r]
    by_cases h : i = 63
    · subst h
      rw [Nat.testBit_two_pow_add_eq, Nat.testBit_lt_two_pow hr]; simp
    · by_cases h' : i < 63
      · rw [Nat.testBit_two_pow_add_gt h']; simp [Ne.symm h]
      · have h1 : r.testBit i = false := Nat.testBit_lt_two_pow (Nat.lt_of_lt_of_le hr (Nat.pow_le_pow_right (by omega) (by omega)))
        have h2 : (2 ^ 63 + r).testBit i = false := Nat.testBit_lt_two_pow (Nat.lt_of_lt_of_le (show 2 ^ 63 + r < 2 ^ 64 by omega) (Nat.pow_le_pow_right (by omega) (by omega)))
        rw [h1, h2]; simp [Ne.symm h]
  unfold flip
  split
  · rename_i h
    have h1 := key (x - 9223372036854775808) (by omega)
    have e : (x - 9223372036854775808) ^^^ 2 ^ 63 = x := by rw [h1]; omega
    have h2 : ((x - 9223372036854775808) ^^^ 2 ^ 63) ^^^ 2 ^ 63 = x - 9223372036854775808 := by rw [Nat.xor_assoc, Nat.xor_self, Nat.xor_zero]
    rw [e] at h2
    exact h2
  · rename_i h
    rw [show (9223372036854775808 : Nat) = 2 ^ 63 by decide]
    exact key x (by omega)


theorem fin_flip (x : Nat) (hx : x < 18446744073709551616) : fin (flip x) = fin x := by
  rw [flip_eq x hx]
  unfold fin
  rw [decide_eq_decide]
  split <;> omega

theorem flip_lt (x : Nat) (hx : x < 18446744073709551616) : flip x < 18446744073709551616 := by
  rw [flip_eq x hx]; split <;> omega

theorem read_flip (x : Nat) (hx : x < 18446744073709551616) (s : Bool) (m : Nat) (e : Int) (h : Ieee.double.read x = .number s m e) :
    Ieee.double.read (flip x) = .number (!s) m e := by
  have hm : flip x % 9223372036854775808 = x % 9223372036854775808 := by rw [flip_eq x hx]; split <;> omega
  have hd : (flip x / 9223372036854775808 % 2 == 1) = !(x / 9223372036854775808 % 2 == 1) := by
    rw [flip_eq x hx, Bool.eq_iff_iff]
    split
    · simp; omega
    · simp; omega
  unfold Ieee.Format.read at h ⊢
  simp only [sw, bn, ir, lp, hm, hd] at h ⊢
  split at h
  · rename_i hb
    rw [if_pos hb]
    simp only [Ieee.Datum.number.injEq] at h ⊢
    exact ⟨by rw [h.1], h.2⟩
  · rename_i hb
    rw [if_neg hb]
    split at h
    · rename_i hc
      rw [if_pos hc]
      simp only [Ieee.Datum.number.injEq] at h ⊢
      exact ⟨by rw [h.1], h.2⟩
    · split at h <;> simp at h

theorem word_of (x : Nat) (hx : x < 18446744073709551616) : Ieee.double.word (decide (9223372036854775808 ≤ x)) (x % 9223372036854775808) = x := by
  unfold Ieee.Format.word
  simp only [sw]
  by_cases h : 9223372036854775808 ≤ x
  · simp [h]; omega
  · simp [h]; omega

theorem signed_neg (s : Bool) (m k : Nat) (hm : m ≠ 0) : Ieee.signed s m k ≠ 0 ∧ decide (Ieee.signed s m k < 0) = s ∧ (Ieee.signed s m k).natAbs = m <<< k := by
  have hp : 0 < 2 ^ k := Nat.two_pow_pos k
  have hpos : 0 < m <<< k := by rw [Nat.shiftLeft_eq]; exact Nat.mul_pos (by omega) hp
  unfold Ieee.signed
  generalize m <<< k = q at *
  cases s
  · simp; omega
  · simp; omega

theorem signed_zero (s : Bool) (k : Nat) : Ieee.signed s 0 k = 0 := by
  unfold Ieee.signed; cases s <;> simp

theorem sum_zero_right (s t : Bool) (m k : Nat) (hm : m ≠ 0) :
    Ieee.Datum.sum (.number s m (-1074 + (k : Int))) (.number t 0 (-1074)) = some (.number s (m <<< k) (-1074)) := by
  obtain ⟨h1, h2, h3⟩ := signed_neg s m k hm
  simp only [Ieee.Datum.sum]
  have e : min (-1074 + (k : Int)) (-1074) = -1074 := by omega
  rw [e, signed_zero, Int.add_zero]
  have e1 : (-1074 + (k : Int) - (-1074)).toNat = k := by omega
  rw [e1, if_neg h1, h2, h3]

theorem sum_zero_left (s t : Bool) (m k : Nat) (hm : m ≠ 0) :
    Ieee.Datum.sum (.number t 0 (-1074)) (.number s m (-1074 + (k : Int))) = some (.number s (m <<< k) (-1074)) := by
  obtain ⟨h1, h2, h3⟩ := signed_neg s m k hm
  simp only [Ieee.Datum.sum]
  have e : min (-1074) (-1074 + (k : Int)) = -1074 := by omega
  rw [e, signed_zero, Int.zero_add]
  have e1 : (-1074 + (k : Int) - (-1074)).toNat = k := by omega
  rw [e1, if_neg h1, h2, h3]

theorem sum_zeros (s t : Bool) (i j : Int) : ∃ b, Ieee.Datum.sum (.number s 0 i) (.number t 0 j) = some (.number (s && t) 0 b) := by
  refine ⟨min i j, ?_⟩
  simp [Ieee.Datum.sum, signed_zero]

theorem sum_flip (s : Bool) (m : Nat) (i : Int) : Ieee.Datum.sum (.number s m i) (.number (!s) m i) = some (.number false 0 i) := by
  have e : Ieee.signed s m (i - i).toNat + Ieee.signed (!s) m (i - i).toNat = 0 := by
    unfold Ieee.signed
    generalize m <<< (i - i).toNat = q
    cases s <;> simp <;> omega
  simp only [Ieee.Datum.sum]
  rw [Int.min_self, e]
  cases s <;> simp

theorem write_zero (i : Int) : Ieee.double.write (.number false 0 i) = 0 := by
  simp [Ieee.Format.write, Ieee.Format.nearest, Ieee.Format.word]

/-- 0 + x. -/
theorem add0 (x : Nat) (hx : x < 18446744073709551616) (h : fin x = true) : Ieee.double.add 0 x = some (keep x) := by
  obtain ⟨s, m, k, hr, hs, h0, h0', hn⟩ := read_fin x hx h
  unfold Ieee.Format.add
  rw [read_zero, hr]
  by_cases hm : m = 0
  · subst hm
    obtain ⟨b, hb⟩ := sum_zeros false s (-1074) (-1074 + (k : Int))
    rw [hb]
    simp only [Option.map_some, Bool.false_and, write_zero]
    have := h0 rfl
    unfold keep
    split
    · rfl
    · congr 1; omega
  · rw [sum_zero_left s false m k hm]
    simp only [Option.map_some, Ieee.Format.write]
    rw [hn hm, hs, word_of x hx]
    unfold keep
    rw [if_neg (fun e => hm (h0' (by omega)))]

theorem keep_lt (x : Nat) (hx : x < 18446744073709551616) : keep x < 18446744073709551616 := by
  unfold keep; split <;> omega

theorem fin_keep (x : Nat) (h : fin x = true) : fin (keep x) = true := by
  unfold keep; split
  · decide
  · exact h

/-- (0 + x) + 0. -/
theorem addk0 (x : Nat) (hx : x < 18446744073709551616) (h : fin x = true) : Ieee.double.add (keep x) 0 = some (keep x) := by
  obtain ⟨s, m, k, hr, hs, h0, h0', hn⟩ := read_fin (keep x) (keep_lt x hx) (fin_keep x h)
  unfold Ieee.Format.add
  rw [read_zero, hr]
  by_cases hm : m = 0
  · subst hm
    obtain ⟨b, hb⟩ := sum_zeros s false (-1074 + (k : Int)) (-1074)
    rw [hb]
    simp only [Option.map_some, Bool.and_false, write_zero]
    have := h0 rfl
    congr 1
    unfold keep at this ⊢
    split
    · rfl
    · rename_i h2
      rw [if_neg h2] at this
      omega
  · rw [sum_zero_right s false m k hm]
    simp only [Option.map_some, Ieee.Format.write]
    rw [hn hm, hs, word_of _ (keep_lt x hx)]

/-- (0 + x) + (-x). -/
theorem addkflip (x : Nat) (hx : x < 18446744073709551616) (h : fin x = true) : Ieee.double.add (keep x) (flip x) = some 0 := by
  obtain ⟨s, m, k, hr, hs, h0, h0', hn⟩ := read_fin x hx h
  have hf := read_flip x hx s m _ hr
  unfold Ieee.Format.add
  rw [hf]
  by_cases hz : x = 9223372036854775808
  · have hm : m = 0 := h0' (by omega)
    subst hm
    have e : keep x = 0 := by unfold keep; rw [if_pos hz]
    rw [e, read_zero]
    obtain ⟨b, hb⟩ := sum_zeros false (!s) (-1074) (-1074 + (k : Int))
    rw [hb]
    simp only [Option.map_some, Bool.false_and, write_zero]
  · have e : keep x = x := by unfold keep; rw [if_neg hz]
    rw [e, hr, sum_flip]
    simp only [Option.map_some, write_zero]

/-- x - x. -/
theorem subself (x : Nat) (hx : x < 18446744073709551616) (h : fin x = true) : Ieee.double.sub x x = some 0 := by
  obtain ⟨s, m, k, hr, hs, h0, h0', hn⟩ := read_fin x hx h
  unfold Ieee.Format.sub
  rw [hr]
  simp only [Ieee.Datum.opposite, sum_flip, Option.map_some, write_zero]

theorem subself_not (x : Nat) (h : fin x = false) : Ieee.double.sub x x = none := by
  unfold Ieee.Format.sub
  rcases read_inf x h with ⟨s, e⟩ | ⟨s, t, e⟩
  · rw [e]; cases s <;> rfl
  · rw [e]; rfl

theorem order_zero : Ieee.double.order 0 0 = some .eq := by decide

/-- A NaN that the tape gives is unlike nought. -/
theorem order_nan (t : Nat) : Ieee.double.order ((t % 2) * 2 ^ 63 + 0x7ff0000000000000 + 1 + (t / 2) % (2 ^ 52 - 1)) 0 = none := by
  have e : ∃ s u, Ieee.double.read ((t % 2) * 2 ^ 63 + 0x7ff0000000000000 + 1 + (t / 2) % (2 ^ 52 - 1)) = .nan s u := by
    generalize hx : (t % 2) * 2 ^ 63 + 0x7ff0000000000000 + 1 + (t / 2) % (2 ^ 52 - 1) = x
    have hu : (t / 2) % (2 ^ 52 - 1) < 2 ^ 52 - 1 := Nat.mod_lt _ (by decide)
    generalize (t / 2) % (2 ^ 52 - 1) = u at hx hu
    have hb : (9218868437227405312 < x % 9223372036854775808) := by rcases Nat.mod_two_eq_zero_or_one t with e | e <;> rw [e] at hx <;> omega
    unfold Ieee.Format.read
    simp only [sw, bn, ir]
    rw [if_neg (by omega), if_neg (by omega), if_neg (by omega)]
    exact ⟨_, _, rfl⟩
  obtain ⟨s, u, e⟩ := e
  unfold Ieee.Format.order
  rw [e]
  rfl

end Go.Proofs.Qxb6602315aMods.Fl
