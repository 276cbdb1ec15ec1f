import Derived.Test.Qxb6628760aNum
namespace Go.Proofs.Qxb6628760a
open Go.RowKit

theorem cut_over (s : ByteArray) (i : Int) (w : World) (hs : 1048576 < s.size ∨ i < 0 ∨ (s.size : Int) < i) :
    Calls Try.prog 4 #[.string s, .int .i64 i] w fun e w' => e = .returned (.bool true) ∧ Below w.heap.size w w' := by
  by_cases h1 : 1048576 < s.size
  · clear hs
    go_enter Try.func4, Try.ntmps4
    go_wp2
    go_ret
    exact ⟨rfl, Below.refl _ _⟩
  · by_cases h2 : i < 0
    · clear hs
      go_enter Try.func4, Try.ntmps4
      go_wp2
      go_ret
      exact ⟨rfl, Below.refl _ _⟩
    · have h3 : (s.size : Int) < i := by omega
      clear hs
      go_enter Try.func4, Try.ntmps4
      go_wp2
      go_ret
      exact ⟨rfl, Below.refl _ _⟩

theorem cut_bytes (s : ByteArray) (I : Nat) : s.data.toList = (s.extract 0 I).data.toList ++ (s.extract I s.size).data.toList := by
  have h1 : (s.extract 0 I).data.toList = s.data.toList.take I := by simp [ByteArray.data_extract]
  have h2 : (s.extract I s.size).data.toList = s.data.toList.drop I := by
    simp [ByteArray.data_extract]
    exact List.take_of_length_le (by simp)
  rw [h1, h2, List.take_append_drop]

/-- The three equations of the law, over bytes. -/
theorem law_whole (s a b : ByteArray) (h : s.data.toList = a.data.toList ++ b.data.toList) : validB s.data.toList = (!s.data.toList.isEmpty && (orNil a.data.toList && orNil b.data.toList)) := by
  rw [orNil_all, orNil_all, validB, h, List.all_append]
theorem law_joined (a b : ByteArray) : validB (a ++ (⟨#[45]⟩ : ByteArray) ++ b).data.toList = (orNil a.data.toList && orNil b.data.toList) := by
  rw [validB, bytes_append, bytes_append, orNil_all, orNil_all, List.all_append, List.all_append, isEmpty_app, isEmpty_app]
  have e1 : (⟨#[45]⟩ : ByteArray).data.toList.isEmpty = false := rfl
  have e2 : (⟨#[45]⟩ : ByteArray).data.toList.all (fun b => okc b.toNat) = true := rfl
  rw [e1, e2]; simp
theorem law_hex (t : ByteArray) (n : Nat) (hn : t.size = 2 * n) (h : ∀ b ∈ t.data.toList, okc b.toNat = true) : validB t.data.toList = !decide (n = 0) := by
  have e2 : t.data.toList.all (fun b => okc b.toNat) = true := List.all_eq_true.2 h
  rw [validB, e2, Bool.and_true]
  congr 1
  by_cases h0 : n = 0
  · rw [(toList_empty t (by omega)).2]; simp [h0]
  · rw [(toList_ne t (by omega)).2]; simp [h0]

set_option maxRecDepth 100000 in
set_option maxHeartbeats 1000000 in
theorem cut_main (s : ByteArray) (I : Nat) (w : World) (hs : s.size ≤ 1048576) (hI : I ≤ s.size) :
    Calls Try.prog 4 #[.string s, .int .i64 (I : Int)] w fun e w' => e = .returned (.bool true) ∧ Below w.heap.size w w' := by
  go_enter Try.func4, Try.ntmps4
  go_upto_region 9 with (go_at_call 8; go_in)
  have hcb := cut_bytes s I
  have hsa : (s.extract 0 I).size ≤ 1048576 := by simp; omega
  have hsb : (s.extract I s.size).size ≤ 1048576 := by simp; omega
  generalize s.extract 0 I = a at *
  generalize s.extract I s.size = b at *
  have Hcb := hid hcb
  clear hcb
  go_cut [7] (fun v wx => v = .bool (orNil a.data.toList) ∧ Below w.heap.size w wx)
  case first =>
    by_cases h0 : a.size = 0
    · obtain ⟨he, hd⟩ := toList_empty a h0
      have Hor : Hid (orNil a.data.toList = true) := by rw [hd]; rfl
      clear hd
      go_wp2
      go_meet
      exact ⟨by rw [Hor.out], Below.refl _ _⟩
    · obtain ⟨he, hd⟩ := toList_ne a h0
      have Hor : Hid (orNil a.data.toList = validB a.data.toList) := orNil_ne hd
      clear hd
      go_wp2_with fail
      refine (valid_any a _ (by omega)).mono ?_
      rintro e w1 ⟨rfl, hb1⟩
      have Hb1 := hid hb1
      clear hb1
      go_wp2
      go_meet
      exact ⟨by rw [Hor.out], Hb1.out⟩
  case rest =>
    obtain ⟨rfl, hbA⟩ := hcut
    obtain ⟨w2, rfl⟩ : ∃ w2 : World, w2 = wc := ⟨_, rfl⟩
    have HbA := hid hbA
    clear hbA
    go_upto_region 10 with fail
    go_cut [8] (fun v wx => v = .bool (orNil b.data.toList) ∧ Below w.heap.size w wx)
    case first =>
      by_cases h0 : b.size = 0
      · obtain ⟨he, hd⟩ := toList_empty b h0
        have Hor : Hid (orNil b.data.toList = true) := by rw [hd]; rfl
        clear hd
        go_wp2
        go_meet
        exact ⟨by rw [Hor.out], HbA.out⟩
      · obtain ⟨he, hd⟩ := toList_ne b h0
        have Hor : Hid (orNil b.data.toList = validB b.data.toList) := orNil_ne hd
        clear hd
        go_wp2_with fail
        refine (valid_any b _ (by omega)).mono ?_
        rintro e w1 ⟨rfl, hb1⟩
        have Hb1 := hid (HbA.out.trans (hb1.mono HbA.out.size))
        clear hb1
        go_wp2
        go_meet
        exact ⟨by rw [Hor.out], Hb1.out⟩
    case rest =>
      obtain ⟨rfl, hbB⟩ := hcut
      obtain ⟨w3, rfl⟩ : ∃ w3 : World, w3 = wc := ⟨_, rfl⟩
      have HbB := hid hbB
      clear hbB HbA
      have Hw := hid (law_whole s a b Hcb.out)
      have Hj := hid (law_joined a b)
      have Hjs : Hid ((a ++ (⟨#[45]⟩ : ByteArray) ++ b).size ≤ 3000000) := by
        show _ ≤ _
        rw [ByteArray.size_append, ByteArray.size_append]
        have : (⟨#[45]⟩ : ByteArray).size = 1 := rfl
        omega
      generalize orNil a.data.toList = pa at *
      generalize orNil b.data.toList = pb at *
      go_wp2_with fail
      refine (hex_any s _ hs).mono ?_
      rintro e w4 ⟨⟨t, rfl, htl, htv⟩, hb4⟩
      have Hx := hid (law_hex t s.size htl htv)
      have Hb4 := hid (HbB.out.trans (hb4.mono HbB.out.size))
      have htl2 : t.size ≤ 3000000 := by omega
      clear hb4 htv htl
      go_wp2_with fail
      refine (valid_any t _ (by omega)).mono ?_
      rintro e w5 ⟨rfl, hb5⟩
      rw [Hx.out]
      have Hb5 := hid (Hb4.out.trans (hb5.mono Hb4.out.size))
      clear hb5
      by_cases h0 : s.size = 0
      · obtain ⟨he, hd⟩ := toList_empty s h0
        have hdec : decide (s.size = 0) = true := decide_eq_true h0
        rw [hdec]
        go_wp2_with fail
        refine (valid_any s _ (by omega)).mono ?_
        rintro e w6 ⟨rfl, hb6⟩
        rw [Hw.out, hd]
        have Hb6 := hid (Hb5.out.trans (hb6.mono Hb5.out.size))
        clear hb6
        simp only [List.isEmpty_nil, Bool.not_true, Bool.false_and]
        cases pa <;> cases pb
        all_goals
          go_wp2_with fail
          refine (valid_any (a ++ (⟨#[45]⟩ : ByteArray) ++ b) _ (by have := Hjs.out; omega)).mono ?_
          rintro e w7 ⟨rfl, hb7⟩
          rw [Hj.out]
          have Hb7 := hid (Hb6.out.trans (hb7.mono Hb6.out.size))
          clear hb7
          go_wp2
          go_ret
          exact ⟨rfl, Hb7.out⟩
      · obtain ⟨he, hd⟩ := toList_ne s h0
        have hdec : decide (s.size = 0) = false := decide_eq_false h0
        rw [hdec]
        go_wp2_with fail
        refine (valid_any s _ (by omega)).mono ?_
        rintro e w6 ⟨rfl, hb6⟩
        rw [Hw.out, hd]
        have Hb6 := hid (Hb5.out.trans (hb6.mono Hb5.out.size))
        clear hb6
        simp only [Bool.not_false, Bool.true_and]
        cases pa <;> cases pb
        all_goals
          go_wp2_with fail
          refine (valid_any (a ++ (⟨#[45]⟩ : ByteArray) ++ b) _ (by have := Hjs.out; omega)).mono ?_
          rintro e w7 ⟨rfl, hb7⟩
          rw [Hj.out]
          have Hb7 := hid (Hb6.out.trans (hb7.mono Hb6.out.size))
          clear hb7
          go_wp2
          go_ret
          exact ⟨rfl, Hb7.out⟩
end Go.Proofs.Qxb6628760a
