import Derived.Test.Qxb6628760aRows
import Derived.WalkKit
import Derived.ProofKit
import Derived.OpenShut
import Derived.ShutString
import Derived.ChangeOld
import Derived.Below
import Derived.WalkSpells
import Derived.WalkLawsBesides
import Derived.WalkSmall
import Derived.Maps.AppendAt
import Derived.Lib.OthersKept
namespace Go.Proofs.Qxb6628760a
open Go.RowKit

theorem hid {p : Prop} (h : p) : Hid p := h
theorem ret_bool {a b : Bool} (h : a = b) : Ending.returned (.bool a) = .returned (.bool b) := by rw [h]

/-- A byte of a name. -/
def okc (c : Nat) : Bool := decide ((97 ≤ c ∧ c ≤ 122) ∨ (48 ≤ c ∧ c ≤ 57) ∨ c = 45)
/-- A name: not empty, each byte one of a name. -/
def validB (l : List UInt8) : Bool := !l.isEmpty && l.all (fun b => okc b.toNat)

theorem decode_big (s : ByteArray) (pos : Nat) (h : pos < s.size) (ha : ¬ (s[pos]'h).toNat < 128) : 128 ≤ (Utf8.decode s pos).1 := by
  have e : s.get! (pos + 0) = s[pos]'h := by
    show s.get! pos = _
    simp [ByteArray.get!, getElem!_pos, h]
    rfl
  simp only [Utf8.decode, e, ha, if_false]
  repeat' split
  all_goals simp_all [Utf8.runeError]
  all_goals omega

theorem bytes_get (s : ByteArray) (i : Nat) (h : i < s.size) : s.data.toList[i]? = some s[i] := by
  rw [List.getElem?_eq_getElem (by simpa using h)]; rfl
theorem bytes_len (s : ByteArray) : s.data.toList.length = s.size := by simp
theorem valid_yes (s : ByteArray) (h0 : s.size ≠ 0) (h : ∀ i (hi : i < s.size), okc (s[i]).toNat = true) : validB s.data.toList = true := by
  have e1 : s.data.toList.isEmpty = false := by
    rw [List.isEmpty_eq_false_iff_exists_mem]
    exact ⟨s[0]'(by omega), List.mem_of_getElem? (bytes_get s 0 (by omega))⟩
  have e2 : s.data.toList.all (fun b => okc b.toNat) = true := by
    rw [List.all_eq_true]
    intro b hb
    obtain ⟨i, hi, rfl⟩ := List.mem_iff_getElem.1 hb
    exact h i (by simpa using hi)
  simp [validB, e1, e2]
theorem valid_no (s : ByteArray) (i : Nat) (hi : i < s.size) (h : okc (s[i]).toNat = false) : validB s.data.toList = false := by
  have e2 : s.data.toList.all (fun b => okc b.toNat) = false := by
    rw [Bool.eq_false_iff]
    intro hh
    rw [List.all_eq_true] at hh
    have := hh _ (List.mem_of_getElem? (bytes_get s i hi))
    rw [h] at this; cases this
  simp [validB, e2]

set_option maxHeartbeats 400000 in
theorem valid_any (s : ByteArray) (w : World) (hs : s.size ≤ 4000000) :
    Calls Try.prog 7 #[.string s] w fun e w' => e = .returned (.bool (validB s.data.toList)) ∧ Below w.heap.size w w' := by
  by_cases h0 : s.size = 0
  · have hnl : s.toList = [] := by rw [ByteArray.toList_eq]; exact List.eq_nil_of_length_eq_zero (by simpa using h0)
    have hne : s.toList.isEmpty = true := by rw [hnl]; rfl
    have hv : Hid (validB s.data.toList = false) := by
      show _ = _
      have : s.data.toList = [] := List.eq_nil_of_length_eq_zero (by simpa using h0)
      rw [this]; rfl
    go_enter Try.func7, Try.ntmps7
    go_wp2
    go_ret
    exact ⟨ret_bool hv.out.symm, Below.refl _ _⟩
  · have hne : s.toList.isEmpty = false := by
      rw [ByteArray.toList_eq, List.isEmpty_eq_false_iff_exists_mem]
      exact ⟨s[0]'(by omega), List.mem_of_getElem? (bytes_get s 0 (by omega))⟩
    go_enter Try.func7, Try.ntmps7
    go_wp2
    go_loopw [4] (fun _ wr => ∃ pos : Nat, pos ≤ s.size ∧ wr = w.iter s pos ∧ ∀ i (hi : i < s.size), i < pos → okc (s[i]).toNat = true) (fun _ wr => s.size - wr.iterPos w.heap.size)
    case atStart => exact ⟨0, Nat.zero_le _, rfl, fun i _ h => by omega⟩
    case round =>
      obtain ⟨pos, hp, rfl, hall⟩ := hrel
      have Hall := hid hall
      clear hall
      by_cases hlt : pos < s.size
      · by_cases ha : (s[pos]'hlt).toNat < 128
        · have hnx := fun ty => run_next_ascii (P := Try.prog) w s pos ty hlt ha
          cases hok : okc (s[pos]'hlt).toNat with
          | true =>
            have Hall2 : Hid (∀ i (hi : i < s.size), i < pos + 1 → okc (s[i]).toNat = true) := fun i hi h => by
              by_cases h1 : i < pos
              · exact Hall.out i hi h1
              · obtain rfl : i = pos := by omega
                exact hok
            have hcs := hok
            rw [okc, decide_eq_true_iff] at hcs
            clear hok Hall
            generalize (s[pos]'hlt).toNat = c at *
            rcases hcs with ⟨h1, h2⟩ | ⟨h1, h2⟩ | h1
            · go_wp2
              exact ⟨⟨pos + 1, by omega, rfl, Hall2.out⟩, by simp; omega⟩
            · go_wp2
              exact ⟨⟨pos + 1, by omega, rfl, Hall2.out⟩, by simp; omega⟩
            · go_wp2
              exact ⟨⟨pos + 1, by omega, rfl, Hall2.out⟩, by simp; omega⟩
          | false =>
            have hv := hid (valid_no s pos hlt hok)
            rw [okc, decide_eq_false_iff_not] at hok
            clear Hall
            generalize (s[pos]'hlt).toNat = c at *
            have hcase : c < 45 ∨ (45 < c ∧ c < 48) ∨ (57 < c ∧ c < 97) ∨ 122 < c := by omega
            clear hok
            rcases hcase with h1 | ⟨h1, h2⟩ | ⟨h1, h2⟩ | h1
            all_goals
              have hb45 : ((c : Int) != 45) = true := by rw [bne_iff_ne]; omega
              go_wp2
              go_ret
              exact ⟨ret_bool hv.out.symm, (Below.refl _ _).alloc (Nat.le_refl _) _⟩
        · have hnx := fun ty => run_next_any (P := Try.prog) w s pos ty hlt
          have hd := (decode_high s pos hlt (by omega)).1
          have hd2 := decode_le s pos
          have hok : okc (s[pos]'hlt).toNat = false := by rw [okc, decide_eq_false_iff_not]; omega
          have hv := hid (valid_no s pos hlt hok)
          clear hok Hall
          generalize (Utf8.decode s pos).1 = c at *
          have hb45 : ((c : Int) != 45) = true := by rw [bne_iff_ne]; omega
          go_wp2
          all_goals
            go_ret
            exact ⟨ret_bool hv.out.symm, (Below.refl _ _).alloc (Nat.le_refl _) _⟩
      · have hnx := fun ty => run_next_end (P := Try.prog) w s pos ty hlt
        have hv := hid (valid_yes s h0 (fun i hi => Hall.out i hi (by omega)))
        go_wp2
        go_ret
        exact ⟨ret_bool hv.out.symm, (Below.refl _ _).alloc (Nat.le_refl _) _⟩
end Go.Proofs.Qxb6628760a
