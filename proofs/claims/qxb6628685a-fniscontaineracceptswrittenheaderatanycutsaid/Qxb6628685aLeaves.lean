import Derived.Test.Qxb6628685aRows
import Derived.Test.Qxb6628685aPlain
import Derived.WalkKit
import Derived.ProofKit
import Derived.OpenShut
import Derived.ShutString
import Derived.ChangeOld
import Derived.Below
import Derived.WalkSpells
import Derived.WalkLawsBesides
import Derived.WalkSmall
import Derived.Maps.AppendAt
namespace Go.Proofs.Qxb6628685a
open Go.RowKit

theorem hid {p : Prop} (h : p) : Hid p := h
theorem ret_int {k : IntKind} {a b : Int} (h : a = b) : Ending.returned (.int k a) = .returned (.int k b) := by rw [h]
theorem ret_bool {a b : Bool} (h : a = b) : Ending.returned (.bool a) = .returned (.bool b) := by rw [h]

theorem hexDigit_any (d : Nat) (w : World) (hd : d < 16) :
    Calls Try.prog 12 #[.int .u32 (d : Int)] w fun e w' => e = .returned (.int .u8 ((hexd d : Nat) : Int)) ∧ w' = w := by
  by_cases h : d < 10
  · have e : Hid (hexd d = 48 + d) := if_pos h
    go_enter Try.func12, Try.ntmps12
    go_wp2
    go_ret
    exact ⟨ret_int (by rw [e.out]; omega), rfl⟩
  · have e : Hid (hexd d = 87 + d) := if_neg h
    go_enter Try.func12, Try.ntmps12
    go_wp2
    go_ret
    exact ⟨ret_int (by rw [e.out]; omega), rfl⟩

theorem hexValue_yes (c : Nat) (w : World) (hc : c < 256) (h : isHex c = true) :
    Calls Try.prog 13 #[.int .u8 (c : Int)] w fun e w' => (∃ v : Nat, v < 16 ∧ e = .returned (.int .i64 (v : Int))) ∧ w' = w := by
  rw [isHex, decide_eq_true_iff] at h
  rcases h with ⟨h1, h2⟩ | ⟨h1, h2⟩
  · go_enter Try.func13, Try.ntmps13
    go_wp2
    go_ret
    exact ⟨⟨c - 48, by omega, ret_int (by omega)⟩, rfl⟩
  · have h3 : ¬ ((c : Int) ≤ 57) := by omega
    go_enter Try.func13, Try.ntmps13
    go_wp2
    go_ret
    exact ⟨⟨c - 87, by omega, ret_int (by omega)⟩, rfl⟩

theorem hexValue_no (c : Nat) (w : World) (hc : c < 256) (h : isHex c = false) :
    Calls Try.prog 13 #[.int .u8 (c : Int)] w fun e w' => e = .returned (.int .i64 (-1)) ∧ w' = w := by
  rw [isHex, decide_eq_false_iff_not] at h
  by_cases h1 : (48 : Int) ≤ (c : Int)
  · by_cases h2 : (c : Int) ≤ 57
    · omega
    · by_cases h3 : (97 : Int) ≤ (c : Int)
      · have h4 : ¬ (c : Int) ≤ 102 := by omega
        clear h
        go_enter Try.func13, Try.ntmps13
        go_wp2
        go_ret
        exact ⟨rfl, rfl⟩
      · clear h
        go_enter Try.func13, Try.ntmps13
        go_wp2
        go_ret
        exact ⟨rfl, rfl⟩
  · have h3 : ¬ (97 : Int) ≤ (c : Int) := by omega
    clear h
    go_enter Try.func13, Try.ntmps13
    go_wp2
    go_ret
    exact ⟨rfl, rfl⟩

theorem allowedAt_any (p c : Nat) (w : World) (hp : p < 4000000) (hc : c < 256) :
    Calls Try.prog 9 #[.int .i64 (p : Int), .int .u8 (c : Int)] w fun e w' => e = .returned (.bool (allowed p c)) ∧ w' = w := by
  have H : Hid (allowed p c = allowed p c) := rfl
  generalize hA : allowed p c = A at *
  have HA := hid hA
  clear hA H
  go_enter Try.func9, Try.ntmps9
  go_wp2
  all_goals
    go_ret
    refine ⟨ret_bool ?_, rfl⟩
    rw [← HA.out, Bool.eq_iff_iff]
    simp only [beq_iff_eq, beq_eq_false_iff_ne, ne_eq] at *
    unfold allowed isHex
    repeat' split
    all_goals simp
    all_goals omega
end Go.Proofs.Qxb6628685a
