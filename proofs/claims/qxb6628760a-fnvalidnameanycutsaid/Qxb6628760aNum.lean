import Derived.Test.Qxb6628760aDec
namespace Go.Proofs.Qxb6628760a
open Go.RowKit

theorem valid_ne {l : List UInt8} (h : validB l = true) : l.isEmpty = false := by
  cases l with
  | nil => simp [validB] at h
  | cons x l => rfl
theorem orNil_valid {l : List UInt8} (h : validB l = true) : orNil l = true := by simp [orNil, h]
theorem isEmpty_app (a b : List UInt8) : (a ++ b).isEmpty = (a.isEmpty && b.isEmpty) := by cases a <;> simp
theorem affix_suf (s t : ByteArray) (h : validB t.data.toList = true) : validB (s ++ t).data.toList = orNil s.data.toList := by
  rw [valid_append, orNil_valid h, bytes_append, isEmpty_app, valid_ne h]; simp
theorem affix_pre (s t : ByteArray) (h : validB t.data.toList = true) : validB (t ++ s).data.toList = orNil s.data.toList := by
  rw [valid_append, orNil_valid h, bytes_append, isEmpty_app, valid_ne h]; simp
theorem toList_empty (s : ByteArray) (h : s.size = 0) : s.toList.isEmpty = true ∧ s.data.toList = [] := by
  have e : s.data.toList = [] := List.eq_nil_of_length_eq_zero (by simpa using h)
  exact ⟨by rw [ByteArray.toList_eq]; show s.data.toList.isEmpty = true; rw [e]; rfl, e⟩
theorem toList_ne (s : ByteArray) (h : s.size ≠ 0) : s.toList.isEmpty = false ∧ s.data.toList.isEmpty = false := by
  have e : s.data.toList.isEmpty = false := by
    rw [List.isEmpty_eq_false_iff]; intro hh
    have h3 := bytes_len s
    rw [hh] at h3; exact h h3.symm
  exact ⟨by rw [ByteArray.toList_eq]; exact e, e⟩
theorem orNil_ne {l : List UInt8} (h : l.isEmpty = false) : orNil l = validB l := by rw [orNil, h]; rfl

theorem num_over (s : ByteArray) (n : Int) (w : World) (hs : 1048576 < s.size) :
    Calls Try.prog 3 #[.string s, .int .i64 n] w fun e w' => e = .returned (.bool true) ∧ Below w.heap.size w w' := by
  go_enter Try.func3, Try.ntmps3
  go_wp2
  go_ret
  exact ⟨rfl, Below.refl _ _⟩

set_option maxHeartbeats 1000000 in
theorem num_main (s : ByteArray) (n : Int) (w : World) (hs : s.size ≤ 1048576) (h1 : -9223372036854775808 ≤ n) (h2 : n ≤ 9223372036854775807) :
    Calls Try.prog 3 #[.string s, .int .i64 n] w fun e w' => e = .returned (.bool true) ∧ Below w.heap.size w w' := by
  have Hdec := hid fun (W : World) => dec_any n W h1 h2
  clear h1 h2
  go_enter Try.func3, Try.ntmps3
  go_wp2_with (go_at_call 5; go_in)
  refine (Hdec.out _).mono ?_
  rintro e w1 ⟨⟨t, rfl, htl, htv⟩, hb1⟩
  have Hb1 := hid hb1
  have Htv := hid htv
  clear hb1 htv Hdec
  go_wp2_with fail
  refine (valid_any t _ (by omega)).mono ?_
  rintro e w2 ⟨rfl, hb2⟩
  rw [Htv.out]
  have Hb2 := hid (Hb1.out.trans (hb2.mono Hb1.out.size))
  clear hb2 Hb1
  have hst : (s ++ t).size ≤ 2000000 := by rw [ByteArray.size_append]; omega
  have hts : (t ++ s).size ≤ 2000000 := by rw [ByteArray.size_append]; omega
  have Hst := hid hst
  have Hts := hid hts
  clear hst hts
  have Hsuf := hid (affix_suf s t Htv.out)
  have Hpre := hid (affix_pre s t Htv.out)
  by_cases h0 : s.size = 0
  · obtain ⟨he, hd⟩ := toList_empty s h0
    have Hor : Hid (orNil s.data.toList = true) := by rw [hd]; rfl
    clear hd
    go_wp2_with fail
    refine (valid_any (s ++ t) _ (by have := Hst.out; omega)).mono ?_
    rintro e w3 ⟨rfl, hb3⟩
    rw [Hsuf.out, Hor.out]
    have Hb3 := hid (Hb2.out.trans (hb3.mono Hb2.out.size))
    clear hb3
    go_wp2_with fail
    refine (valid_any (t ++ s) _ (by have := Hts.out; omega)).mono ?_
    rintro e w4 ⟨rfl, hb4⟩
    rw [Hpre.out, Hor.out]
    have Hb4 := hid (Hb3.out.trans (hb4.mono Hb3.out.size))
    clear hb4
    go_wp2
    go_ret
    exact ⟨rfl, Hb4.out⟩
  · obtain ⟨he, hd⟩ := toList_ne s h0
    have Hor : Hid (orNil s.data.toList = validB s.data.toList) := orNil_ne hd
    clear hd
    go_wp2_with fail
    refine (valid_any s _ (by omega)).mono ?_
    rintro e w2b ⟨rfl, hb2b⟩
    have Hb2b := hid (Hb2.out.trans (hb2b.mono Hb2.out.size))
    clear hb2b
    generalize hv : validB s.data.toList = v at *
    have Hv := hid hv
    clear hv
    go_wp2_with fail
    refine (valid_any (s ++ t) _ (by have := Hst.out; omega)).mono ?_
    rintro e w3 ⟨rfl, hb3⟩
    rw [Hsuf.out, Hor.out]
    have Hb3 := hid (Hb2b.out.trans (hb3.mono Hb2b.out.size))
    clear hb3
    go_wp2_with fail
    refine (valid_any (t ++ s) _ (by have := Hts.out; omega)).mono ?_
    rintro e w4 ⟨rfl, hb4⟩
    rw [Hpre.out, Hor.out]
    have Hb4 := hid (Hb3.out.trans (hb4.mono Hb3.out.size))
    clear hb4
    go_wp2
    go_ret
    exact ⟨rfl, Hb4.out⟩
end Go.Proofs.Qxb6628760a
