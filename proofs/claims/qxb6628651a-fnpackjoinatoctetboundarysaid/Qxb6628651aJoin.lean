import Derived.Test.Qxb6628651aPlain
namespace Go.Proofs.Qxb6628651a

theorem byte_ext (x y : Nat) (hx : x < 256) (hy : y < 256) (h : ∀ t, t < 8 → x.testBit t = y.testBit t) : x = y := by
  apply Nat.eq_of_testBit_eq
  intro t
  by_cases ht : t < 8
  · exact h t ht
  · have h8 : 2 ^ 8 ≤ 2 ^ t := Nat.pow_le_pow_right (by omega) (by omega)
    rw [Nat.testBit_lt_two_pow (Nat.lt_of_lt_of_le hx (by simpa using h8)), Nat.testBit_lt_two_pow (Nat.lt_of_lt_of_le hy (by simpa using h8))]

theorem getD_left (A B : List Nat) (i : Nat) (h : i < A.length) : (A ++ B).getD i 0 = A.getD i 0 := by
  simp [List.getD, List.getElem?_append_left h]
theorem getD_right (A B : List Nat) (i : Nat) : (A ++ B).getD (A.length + i) 0 = B.getD i 0 := by
  simp [List.getD, List.getElem?_append_right]

/-- The whole's octets begin with those of the first part. -/
theorem join_left (A B OW OA : List Nat) (N i : Nat) (hA : A.length % 8 = 0) (hN : N = A.length + B.length) (hW : PB (A ++ B) N OW) (hP : PB A A.length OA) (hi : i < 7 * (A.length / 8)) :
    OW.getD i 0 = OA.getD i 0 := by
  refine byte_ext _ _ (hW.1 _) (hP.1 _) fun t ht => ?_
  rw [hW.2 i t ht, hP.2 i t ht]
  have h1 : 8 * i + t < 7 * A.length := by omega
  have h2 : 8 * i + t < 7 * N := by omega
  simp only [h1, h2, decide_true, Bool.true_and, bitAt]
  rw [getD_left A B _ (by omega)]

/-- .. and go on with those of the second. -/
theorem join_right (A B OW OB : List Nat) (N i : Nat) (hA : A.length % 8 = 0) (hN : N = A.length + B.length) (hW : PB (A ++ B) N OW) (hP : PB B B.length OB) :
    OW.getD (7 * (A.length / 8) + i) 0 = OB.getD i 0 := by
  refine byte_ext _ _ (hW.1 _) (hP.1 _) fun t ht => ?_
  rw [hW.2 _ t ht, hP.2 i t ht]
  have e : 8 * (7 * (A.length / 8) + i) + t = 7 * A.length + (8 * i + t) := by omega
  rw [e]
  have h : (7 * A.length + (8 * i + t) < 7 * N) ↔ (8 * i + t < 7 * B.length) := by omega
  have e1 : (7 * A.length + (8 * i + t)) / 7 = A.length + (8 * i + t) / 7 := by omega
  have e2 : (7 * A.length + (8 * i + t)) % 7 = (8 * i + t) % 7 := by omega
  simp only [h, bitAt, e1, e2]
  rw [getD_right]

/-- The last octet of a padded whole. -/
theorem join_last (M OW : List Nat) (N m : Nat) (hN : N = M.length) (hN8 : N % 8 = 0) (h0 : 0 < N) (hl : M.getD (N - 1) 0 = 13) (hm : m = 7 * (N / 8)) (hW : PB M N OW) :
    OW.getD (m - 1) 0 / 2 = 13 := by
  have hx := hW.1 (m - 1)
  refine byte_ext _ _ (by omega) (by omega) fun t ht => ?_
  have e : (OW.getD (m - 1) 0 / 2).testBit t = (OW.getD (m - 1) 0).testBit (t + 1) := by
    rw [show OW.getD (m - 1) 0 / 2 = OW.getD (m - 1) 0 / 2 ^ 1 from rfl, Nat.testBit_div_two_pow]
  rw [e]
  by_cases h7 : t < 7
  · rw [hW.2 _ (t + 1) (by omega)]
    have h1 : 8 * (m - 1) + (t + 1) < 7 * N := by omega
    have e1 : (8 * (m - 1) + (t + 1)) / 7 = N - 1 := by omega
    have e2 : (8 * (m - 1) + (t + 1)) % 7 = t := by omega
    simp only [h1, decide_true, Bool.true_and, bitAt, e1, e2, hl]
  · obtain rfl : t = 7 := by omega
    rw [Nat.testBit_lt_two_pow (by omega)]
    rfl

end Go.Proofs.Qxb6628651a
