import Derived.Laws.BitsAllLaws
import Derived.Laws.Rows
namespace Go.Proofs.Qxb6628651a

/-- Bit p of the stream of septets L. -/
def bitAt (L : List Nat) (p : Nat) : Bool := (L.getD (p / 7) 0).testBit (p % 7)

/-- The octets O hold the first k septets of L, and nothing else. -/
def PB (L : List Nat) (k : Nat) (O : List Nat) : Prop :=
  (∀ j, O.getD j 0 < 256) ∧ ∀ j t, t < 8 → (O.getD j 0).testBit t = (decide (8 * j + t < 7 * k) && bitAt L (8 * j + t))

theorem PB_zero (L : List Nat) (m : Nat) : PB L 0 (List.replicate m 0) := by
  have e : ∀ j, (List.replicate m 0).getD j 0 = 0 := by intro j; simp [List.getD, List.getElem?_replicate]; split <;> rfl
  exact ⟨fun j => by rw [e]; omega, fun j t ht => by rw [e]; simp⟩

theorem getD_set_same (O : List Nat) (q x : Nat) (h : q < O.length) : (O.set q x).getD q 0 = x := by simp [List.getD, h]
theorem getD_set_other (O : List Nat) (q j x : Nat) (h : j ≠ q) : (O.set q x).getD j 0 = O.getD j 0 := by
  simp [List.getD, Ne.symm h]

theorem seven_bits (c t : Nat) : (c &&& 127).testBit t = (c.testBit t && decide (t < 7)) := by
  rw [Nat.testBit_and, show (127 : Nat) = 2 ^ 7 - 1 from rfl, Nat.testBit_two_pow_sub_one]

theorem or_lt (x y : Nat) (hx : x < 256) (hy : y < 256) : x ||| y < 256 := Nat.or_lt_two_pow (n := 8) hx hy

/-- The octet that septet k begins in. -/
theorem bit_low (L : List Nat) (k q r x c t : Nat) (hq : q = k * 7 / 8) (hr : r = k * 7 % 8) (hc : c = L.getD k 0) (ht : t < 8)
    (hx : x.testBit t = (decide (8 * q + t < 7 * k) && bitAt L (8 * q + t))) :
    (x ||| ((c &&& 127) * 2 ^ r % 256)).testBit t = (decide (8 * q + t < 7 * (k + 1)) && bitAt L (8 * q + t)) := by
  rw [Nat.testBit_or, show (256 : Nat) = 2 ^ 8 from rfl, Nat.testBit_mod_two_pow, Nat.testBit_mul_two_pow, seven_bits, hx]
  by_cases h : t < r
  · have h1 : 8 * q + t < 7 * k := by omega
    have h2 : 8 * q + t < 7 * (k + 1) := by omega
    have h3 : ¬ r ≤ t := by omega
    simp [h1, h2, h3]
  · have h1 : ¬ 8 * q + t < 7 * k := by omega
    have h3 : r ≤ t := by omega
    by_cases h4 : t - r < 7
    · have h2 : 8 * q + t < 7 * (k + 1) := by omega
      have e1 : (8 * q + t) / 7 = k := by omega
      have e2 : (8 * q + t) % 7 = t - r := by omega
      simp [h1, h2, h3, h4, ht, bitAt, e1, e2, hc]
    · have h2 : ¬ 8 * q + t < 7 * (k + 1) := by omega
      simp [h1, h2, h4]

/-- The octet that septet k runs on into. -/
theorem bit_high (L : List Nat) (k q r y c t : Nat) (hq : q = k * 7 / 8) (hr : r = k * 7 % 8) (hr1 : 1 < r) (hc : c = L.getD k 0) (ht : t < 8)
    (hy : y.testBit t = (decide (8 * (q + 1) + t < 7 * k) && bitAt L (8 * (q + 1) + t))) :
    (y ||| ((c &&& 127) / 2 ^ (8 - r))).testBit t = (decide (8 * (q + 1) + t < 7 * (k + 1)) && bitAt L (8 * (q + 1) + t)) := by
  rw [Nat.testBit_or, Nat.testBit_div_two_pow, seven_bits, hy]
  have h1 : ¬ 8 * (q + 1) + t < 7 * k := by omega
  by_cases h4 : t + (8 - r) < 7
  · have h2 : 8 * (q + 1) + t < 7 * (k + 1) := by omega
    have e1 : (8 * (q + 1) + t) / 7 = k := by omega
    have e2 : (8 * (q + 1) + t) % 7 = t + (8 - r) := by omega
    simp [h1, h2, h4, bitAt, e1, e2, hc]
  · have h2 : ¬ 8 * (q + 1) + t < 7 * (k + 1) := by omega
    simp [h1, h2, h4]

theorem and_lt (c : Nat) : c &&& 127 < 128 := Nat.and_lt_two_pow (n := 7) c (by omega)

theorem PB_one (L O : List Nat) (k : Nat) (hqO : k * 7 / 8 < O.length) (h : PB L k O) (hr : k * 7 % 8 ≤ 1) :
    PB L (k + 1) (O.set (k * 7 / 8) (O.getD (k * 7 / 8) 0 ||| ((L.getD k 0 &&& 127) * 2 ^ (k * 7 % 8) % 256))) := by
  obtain ⟨ha, hb⟩ := h
  constructor
  · intro j
    by_cases hj : j = k * 7 / 8
    · rw [hj, getD_set_same _ _ _ hqO]; exact or_lt _ _ (ha _) (by omega)
    · rw [getD_set_other _ _ _ _ hj]; exact ha j
  · intro j t ht
    by_cases hj : j = k * 7 / 8
    · rw [hj, getD_set_same _ _ _ hqO]; exact bit_low L k _ _ _ _ t rfl rfl rfl ht (hb _ t ht)
    · rw [getD_set_other _ _ _ _ hj, hb j t ht]
      have : (8 * j + t < 7 * k) ↔ (8 * j + t < 7 * (k + 1)) := by omega
      simp [this]

theorem PB_two (L O : List Nat) (k : Nat) (hqO : k * 7 / 8 + 1 < O.length) (h : PB L k O) (hr : 1 < k * 7 % 8) :
    PB L (k + 1) ((O.set (k * 7 / 8) (O.getD (k * 7 / 8) 0 ||| ((L.getD k 0 &&& 127) * 2 ^ (k * 7 % 8) % 256))).set (k * 7 / 8 + 1) (O.getD (k * 7 / 8 + 1) 0 ||| ((L.getD k 0 &&& 127) / 2 ^ (8 - k * 7 % 8)))) := by
  obtain ⟨ha, hb⟩ := h
  have hand := and_lt (L.getD k 0)
  have hdiv : (L.getD k 0 &&& 127) / 2 ^ (8 - k * 7 % 8) < 256 := Nat.lt_of_le_of_lt (Nat.div_le_self _ _) (by omega)
  constructor
  · intro j
    by_cases hj1 : j = k * 7 / 8 + 1
    · rw [hj1, getD_set_same _ _ _ (by simpa using hqO)]; exact or_lt _ _ (ha _) hdiv
    · rw [getD_set_other _ _ _ _ hj1]
      by_cases hj : j = k * 7 / 8
      · rw [hj, getD_set_same _ _ _ (by omega)]; exact or_lt _ _ (ha _) (by omega)
      · rw [getD_set_other _ _ _ _ hj]; exact ha j
  · intro j t ht
    by_cases hj1 : j = k * 7 / 8 + 1
    · rw [hj1, getD_set_same _ _ _ (by simpa using hqO)]; exact bit_high L k _ _ _ _ t rfl rfl hr rfl ht (hb _ t ht)
    · rw [getD_set_other _ _ _ _ hj1]
      by_cases hj : j = k * 7 / 8
      · rw [hj, getD_set_same _ _ _ (by omega)]; exact bit_low L k _ _ _ _ t rfl rfl rfl ht (hb _ t ht)
      · rw [getD_set_other _ _ _ _ hj, hb j t ht]
        have : (8 * j + t < 7 * k) ↔ (8 * j + t < 7 * (k + 1)) := by omega
        simp [this]

/-- The numbers as the walk writes them. -/
theorem low_num (x c r : Nat) (hx : x < 256) (hc : c < 256) :
    bits .or .u8 (x : Int) (bits .and .u8 (c : Int) 127 * 2 ^ r % 256) = ((x ||| ((c &&& 127) * 2 ^ r % 256) : Nat) : Int) := by
  have e := u8_and_nat c 127 hc (by omega)
  have e' : bits .and .u8 (c : Int) 127 = ((c &&& 127 : Nat) : Int) := e
  rw [e']
  have e2 : ((c &&& 127 : Nat) : Int) * 2 ^ r % 256 = (((c &&& 127) * 2 ^ r % 256 : Nat) : Int) := by rw [Int.natCast_emod, Int.natCast_mul, Int.natCast_pow]; rfl
  rw [e2]
  exact u8_or_nat x _ hx (by omega)

theorem high_num (y c r : Nat) (hy : y < 256) (hc : c < 256) :
    bits .or .u8 (y : Int) (bits .and .u8 (c : Int) 127 / 2 ^ r) = ((y ||| ((c &&& 127) / 2 ^ r) : Nat) : Int) := by
  have e := u8_and_nat c 127 hc (by omega)
  have e' : bits .and .u8 (c : Int) 127 = ((c &&& 127 : Nat) : Int) := e
  rw [e']
  have e2 : ((c &&& 127 : Nat) : Int) / 2 ^ r = (((c &&& 127) / 2 ^ r : Nat) : Int) := by rw [Int.natCast_ediv, Int.natCast_pow]; rfl
  rw [e2]
  have hand := and_lt c
  exact u8_or_nat y _ hy (Nat.lt_of_le_of_lt (Nat.div_le_self _ _) (by omega))

end Go.Proofs.Qxb6628651a
