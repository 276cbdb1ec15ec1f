import Derived.Laws.BitsAllLaws
namespace Go.Proofs.Qxb6628685a

/-- The lower-case hex digit of d. -/
def hexd (d : Nat) : Nat := if d < 10 then 48 + d else 87 + d
def isHex (c : Nat) : Bool := decide ((48 ≤ c ∧ c ≤ 57) ∨ (97 ≤ c ∧ c ≤ 102))
/-- May the byte c stand at place p of a content with a block header? -/
def allowed (p c : Nat) : Bool :=
  if p < 16 ∨ 47 ≤ p then true
  else if p = 16 ∨ p = 45 then decide (c = 13)
  else if p = 17 ∨ p = 46 then decide (c = 10)
  else if p = 26 ∨ p = 35 ∨ p = 44 then decide (c = 32)
  else isHex c
/-- Is the content H a container? -/
def isCont (H : List Nat) : Bool := decide (47 ≤ H.length) && (List.range 47).all (fun p => allowed p (H.getD p 0))
theorem isCont_iff (H : List Nat) : isCont H = true ↔ (47 ≤ H.length ∧ ∀ p, p < 47 → allowed p (H.getD p 0) = true) := by
  simp [isCont]

theorem hexd_hex (d : Nat) (h : d < 16) : isHex (hexd d) = true := by
  unfold isHex hexd; split <;> simp <;> omega
theorem hexd_lt (d : Nat) (h : d < 16) : hexd d < 256 := by unfold hexd; split <;> omega

/-- Digit number j (from the left) of the eight digits of v. -/
def dig (v j : Nat) : Nat := hexd (v / 2 ^ (28 - 4 * j) &&& 15)
def hex8 (v : Nat) : List Nat := (List.range 8).map (dig v)
theorem and15 (x : Nat) : x &&& 15 < 16 := Nat.and_lt_two_pow (n := 4) x (by omega)
theorem dig_hex (v j : Nat) : isHex (dig v j) = true := hexd_hex _ (and15 _)
theorem dig_lt (v j : Nat) : dig v j < 256 := hexd_lt _ (and15 _)

/-- What the writer writes. -/
def headL (pre : List Nat) (doc data next : Nat) (T : List Nat) : List Nat :=
  pre ++ ([13, 10] ++ (hex8 doc ++ ([32] ++ (hex8 data ++ ([32] ++ (hex8 next ++ ([32] ++ ([13, 10] ++ T))))))))

theorem headL_length (pre : List Nat) (doc data next : Nat) (T : List Nat) (hp : pre.length = 16) : (headL pre doc data next T).length = 47 + T.length := by
  simp [headL, hex8, hp]; omega

theorem headL_pre (pre : List Nat) (doc data next : Nat) (T : List Nat) (hp : pre.length = 16) (p : Nat) :
    (headL pre doc data next T).getD (16 + p) 0 = ([13, 10, dig doc 0, dig doc 1, dig doc 2, dig doc 3, dig doc 4, dig doc 5, dig doc 6, dig doc 7, 32, dig data 0, dig data 1, dig data 2, dig data 3, dig data 4, dig data 5, dig data 6, dig data 7, 32, dig next 0, dig next 1, dig next 2, dig next 3, dig next 4, dig next 5, dig next 6, dig next 7, 32, 13, 10] ++ T).getD p 0 := by
  unfold headL
  rw [show 16 + p = pre.length + p by omega]
  simp only [List.getD, List.getElem?_append_right (Nat.le_add_right _ _), Nat.add_sub_cancel_left]
  congr 1

theorem headL_allowed (pre : List Nat) (doc data next : Nat) (T : List Nat) (hp : pre.length = 16) (p : Nat) (h : p < 47) : allowed p ((headL pre doc data next T).getD p 0) = true := by
  by_cases h16 : p < 16
  · simp [allowed, h16]
  · obtain ⟨q, rfl⟩ : ∃ q, p = 16 + q := ⟨p - 16, by omega⟩
    rw [headL_pre _ _ _ _ _ hp]
    have hq : q < 31 := by omega
    have hq' : q = 0 ∨ q = 1 ∨ q = 2 ∨ q = 3 ∨ q = 4 ∨ q = 5 ∨ q = 6 ∨ q = 7 ∨ q = 8 ∨ q = 9 ∨ q = 10 ∨ q = 11 ∨ q = 12 ∨ q = 13 ∨ q = 14 ∨ q = 15 ∨ q = 16 ∨ q = 17 ∨ q = 18 ∨ q = 19 ∨ q = 20 ∨ q = 21 ∨ q = 22 ∨ q = 23 ∨ q = 24 ∨ q = 25 ∨ q = 26 ∨ q = 27 ∨ q = 28 ∨ q = 29 ∨ q = 30 := by omega
    rcases hq' with rfl | rfl | rfl | rfl | rfl | rfl | rfl | rfl | rfl | rfl | rfl | rfl | rfl | rfl | rfl | rfl | rfl | rfl | rfl | rfl | rfl | rfl | rfl | rfl | rfl | rfl | rfl | rfl | rfl | rfl | rfl <;> simp [allowed, List.getD, dig_hex]

theorem headL_lt (pre : List Nat) (doc data next : Nat) (T : List Nat) (hp : ∀ i, pre.getD i 0 < 256) (hT : ∀ i, T.getD i 0 < 256) : ∀ i, (headL pre doc data next T).getD i 0 < 256 := by
  have key : ∀ (A B : List Nat), (∀ i, A.getD i 0 < 256) → (∀ i, B.getD i 0 < 256) → ∀ i, (A ++ B).getD i 0 < 256 := by
    intro A B hA hB i
    by_cases h : i < A.length
    · have := hA i; simpa [List.getD, List.getElem?_append_left h] using this
    · have := hB (i - A.length); simpa [List.getD, List.getElem?_append_right (Nat.le_of_not_lt h)] using this
  have h8 : ∀ v i, (hex8 v).getD i 0 < 256 := by
    intro v i
    by_cases h : i < 8
    · have e : (hex8 v).getD i 0 = dig v i := by simp [hex8, List.getD, h]
      rw [e]; exact dig_lt v i
    · have e : (hex8 v).getD i 0 = 0 := by simp [hex8, List.getD, List.getElem?_eq_none (show (List.range 8).length ≤ i by simp; omega)]
      rw [e]; omega
  have h2 : ∀ i, ([13, 10] : List Nat).getD i 0 < 256 := by
    intro i; match i with
    | 0 => decide
    | 1 => decide
    | n + 2 => simp [List.getD]
  have h1 : ∀ i, ([32] : List Nat).getD i 0 < 256 := by
    intro i; match i with
    | 0 => decide
    | n + 1 => simp [List.getD]
  exact key _ _ hp (key _ _ h2 (key _ _ (h8 _) (key _ _ h1 (key _ _ (h8 _) (key _ _ h1 (key _ _ (h8 _) (key _ _ h1 (key _ _ h2 hT))))))))

theorem headL_cont (pre : List Nat) (doc data next : Nat) (T : List Nat) (hp : pre.length = 16) : isCont (headL pre doc data next T) = true := by
  rw [isCont_iff]
  exact ⟨by rw [headL_length _ _ _ _ _ hp]; omega, fun p h => headL_allowed _ _ _ _ _ hp p h⟩

theorem take_cont (H : List Nat) (h : isCont H = true) (k : Nat) (hk : k ≤ H.length) : isCont (H.take k) = decide (47 ≤ k) := by
  rw [isCont_iff] at h
  rw [Bool.eq_iff_iff, isCont_iff, decide_eq_true_iff]
  have hl : (H.take k).length = k := by simp; omega
  rw [hl]
  refine ⟨fun h => h.1, fun h2 => ⟨h2, fun p hp => ?_⟩⟩
  have e : (H.take k).getD p 0 = H.getD p 0 := by simp [List.getD, show p < k by omega]
  rw [e]; exact h.2 p hp

theorem set_cont (H : List Nat) (h : isCont H = true) (p c : Nat) (hp : p < H.length) : isCont (H.set p c) = allowed p c := by
  rw [isCont_iff] at h
  rw [Bool.eq_iff_iff, isCont_iff]
  have e1 : (H.set p c).getD p 0 = c := by simp [List.getD, hp]
  have e2 : ∀ q, q ≠ p → (H.set p c).getD q 0 = H.getD q 0 := fun q hq => by simp [List.getD, Ne.symm hq]
  rw [List.length_set]
  constructor
  · intro hh
    by_cases h47 : p < 47
    · have := hh.2 p h47; rw [e1] at this; exact this
    · simp [allowed, show 47 ≤ p by omega]
  · intro ha
    refine ⟨h.1, fun q hq => ?_⟩
    by_cases hqp : q = p
    · subst hqp; rw [e1]; exact ha
    · rw [e2 q hqp]; exact h.2 q hq

end Go.Proofs.Qxb6628685a
