import Derived.Test.Qxb6628733aAgents
namespace Go.Proofs.Qxb6628733a
open Go.RowKit

/-- What the byte guard says. -/
def FitPost (As : List Ag) (e : Ending) : Prop := ∃ ok : Bool, e = .returned (.bool ok) ∧ (ok = true → As.length ≤ 65536 ∧ ∀ i, i < As.length → (As.getD i noAg).fl.length ≤ 1048576)
theorem fit_no {As : List Ag} {e : Ending} (h : e = .returned (.bool false)) : FitPost As e := ⟨false, h, by simp⟩

set_option maxRecDepth 100000 in
set_option maxHeartbeats 1000000 in
theorem fit_any (ao : Option Addr) (cap : Nat) (As : List Ag) (w : World) (hm : As.length ≤ maxLen) (hA : AgsAt w ao As) :
    Calls Try.prog 6 #[.slice ao As.length cap] w fun e w' => FitPost As e ∧ w' = w := by
  unfold maxLen at hm
  have HA := hid hA
  clear hA
  by_cases hbig : As.length ≤ 65536
  · go_enter Try.func6, Try.ntmps6
    go_wp2
    go_loop [3, 4] (fun s c => ∃ (i : Nat) (t : Int), i ≤ As.length ∧ c = .int .i64 i ∧ 0 ≤ t ∧ t ≤ 1048576 ∧ s = .int .i64 t ∧ ∀ i', i' < i → (As.getD i' noAg).fl.length ≤ 1048576) (fun _ c => As.length - (intOf c).toNat)
    case atStart => exact ⟨0, 0, Nat.zero_le _, rfl, by omega, by omega, rfl, fun i' h => by omega⟩
    case round =>
      obtain ⟨i, t, hi, rfl, ht0, ht, rfl, hall⟩ := hrel
      have Hall := hid hall
      clear hall
      by_cases hlt : i < As.length
      · obtain ⟨b, o, rfl, hc⟩ := HA.out (by omega)
        obtain ⟨c0, c1, fo, fc, c2, hpls, _⟩ := hc i hlt
        have Hpl := hid hpls
        clear hpls hc
        have HF := hid fun (h : (As.getD i noAg).fl.length ≤ 1048576) (i' : Nat) (hi' : i' < i + 1) => (show (As.getD i' noAg).fl.length ≤ 1048576 from by
          by_cases h1 : i' < i
          · exact Hall.out i' h1
          · obtain rfl : i' = i := by omega
            exact h)
        clear Hall
        generalize As.getD i noAg = a at c0 c1 c2 Hpl HF
        go_wp2
        all_goals try (go_ret; exact ⟨fit_no rfl, rfl⟩)
        have hfl : a.fl.length ≤ 1048576 := by omega
        have HF2 := hid (HF.out hfl)
        clear HF
        go_loop [3, 5] (fun s c => ∃ (j : Nat) (t : Int), j ≤ a.fl.length ∧ c = .int .i64 j ∧ 0 ≤ t ∧ t ≤ 1048576 ∧ s = .int .i64 t) (fun _ c => a.fl.length - (intOf c).toNat)
        case atStart => exact ⟨0, _, Nat.zero_le _, rfl, by omega, by omega, rfl⟩
        case round =>
          obtain ⟨j, t2, hjl, rfl, ht20, ht2, rfl⟩ := hrel
          by_cases hjt : j < a.fl.length
          · obtain ⟨fb, foff, rfl, hcf⟩ := Hpl.out (by omega)
            obtain ⟨p0, p1, p2⟩ := hcf j hjt
            clear hcf
            generalize a.fl.getD j noPl = p at *
            go_wp2
            all_goals try (go_ret; exact ⟨fit_no rfl, rfl⟩)
            go_round
            case rel => exact ⟨j + 1, _, by omega, by go_num, by omega, by omega, rfl⟩
            case measure => simp [intOf]; omega
          · go_wp2
            exact ⟨⟨i + 1, t2, by omega, by go_num, ht20, ht2, rfl, HF2.out⟩, by simp [intOf]; omega⟩
      · go_wp2
        go_ret
        exact ⟨⟨true, rfl, fun _ => ⟨hbig, fun i' h => Hall.out i' (by omega)⟩⟩, rfl⟩
  · go_enter Try.func6, Try.ntmps6
    go_wp2
    go_ret
    exact ⟨fit_no rfl, rfl⟩

/-- Some answer. -/
def ZPost (e : Ending) : Prop := ∃ ok : Bool, e = .returned (.bool ok)

set_option maxRecDepth 100000 in
set_option maxHeartbeats 1000000 in
theorem zz5_any (ao : Option Addr) (cap : Nat) (As : List Ag) (x y : Int) (w : World) (hm : As.length ≤ maxLen) (hA : AgsAt w ao As) :
    Calls Try.prog 5 #[.slice ao As.length cap, .int .i64 x, .int .i64 y] w fun e w' => ZPost e ∧ w' = w := by
  unfold maxLen at hm
  have HA := hid hA
  clear hA
  by_cases hbig : As.length ≤ 1048576
  · go_enter Try.func5, Try.ntmps5
    go_wp2
    go_loop [7, 8] (fun s c => ∃ (i : Nat) (t : Int), i ≤ As.length ∧ c = .int .i64 i ∧ 0 ≤ t ∧ t ≤ 1048576 ∧ s = .int .i64 t) (fun _ c => As.length - (intOf c).toNat)
    case atStart => exact ⟨0, _, Nat.zero_le _, rfl, by omega, by omega, rfl⟩
    case round =>
      obtain ⟨i, t, hi, rfl, ht0, ht, rfl⟩ := hrel
      by_cases hlt : i < As.length
      · obtain ⟨b, o, rfl, hc⟩ := HA.out (by omega)
        obtain ⟨c0, c1, fo, fc, c2, hpls, _⟩ := hc i hlt
        have Hpl := hid hpls
        clear hpls hc
        generalize As.getD i noAg = a at c0 c1 c2 Hpl
        go_wp2
        all_goals try (go_ret; exact ⟨⟨false, rfl⟩, rfl⟩)
        have hfl : a.fl.length ≤ 1048576 := by omega
        go_loop [7, 9] (fun s c => ∃ (j : Nat) (t : Int), j ≤ a.fl.length ∧ c = .int .i64 j ∧ 0 ≤ t ∧ t ≤ 1048576 ∧ s = .int .i64 t) (fun _ c => a.fl.length - (intOf c).toNat)
        case atStart => exact ⟨0, _, Nat.zero_le _, rfl, by omega, by omega, rfl⟩
        case round =>
          obtain ⟨j, t2, hjl, rfl, ht20, ht2, rfl⟩ := hrel
          by_cases hjt : j < a.fl.length
          · obtain ⟨fb, foff, rfl, hcf⟩ := Hpl.out (by omega)
            obtain ⟨p0, p1, p2⟩ := hcf j hjt
            clear hcf
            generalize a.fl.getD j noPl = p at *
            go_wp2
            all_goals try (go_ret; exact ⟨⟨false, rfl⟩, rfl⟩)
            go_round
            case rel => exact ⟨j + 1, _, by omega, by go_num, by omega, by omega, rfl⟩
            case measure => simp [intOf]; omega
          · go_wp2
            exact ⟨⟨i + 1, t2, by omega, by go_num, ht20, ht2, rfl⟩, by simp [intOf]; omega⟩
      · go_wp2
        go_ret
        exact ⟨⟨true, rfl⟩, rfl⟩
  · go_enter Try.func5, Try.ntmps5
    go_wp2
    go_ret
    exact ⟨⟨false, rfl⟩, rfl⟩

set_option maxRecDepth 100000 in
set_option maxHeartbeats 1000000 in
theorem zz12_any (ao : Option Addr) (cap : Nat) (As : List Ag) (x y z : Int) (w : World) (hm : As.length ≤ maxLen) (hA : AgsAt w ao As) :
    Calls Try.prog 12 #[.slice ao As.length cap, .int .i64 x, .int .i64 y, .int .i64 z] w fun e w' => ZPost e ∧ w' = w := by
  unfold maxLen at hm
  have HA := hid hA
  clear hA
  by_cases hbig : As.length ≤ 1048576
  · go_enter Try.func12, Try.ntmps12
    go_wp2
    go_loop [9, 10] (fun s c => ∃ (i : Nat) (t : Int), i ≤ As.length ∧ c = .int .i64 i ∧ 0 ≤ t ∧ t ≤ 1048576 ∧ s = .int .i64 t) (fun _ c => As.length - (intOf c).toNat)
    case atStart => exact ⟨0, _, Nat.zero_le _, rfl, by omega, by omega, rfl⟩
    case round =>
      obtain ⟨i, t, hi, rfl, ht0, ht, rfl⟩ := hrel
      by_cases hlt : i < As.length
      · obtain ⟨b, o, rfl, hc⟩ := HA.out (by omega)
        obtain ⟨c0, c1, fo, fc, c2, hpls, _⟩ := hc i hlt
        have Hpl := hid hpls
        clear hpls hc
        generalize As.getD i noAg = a at c0 c1 c2 Hpl
        go_wp2
        all_goals try (go_ret; exact ⟨⟨false, rfl⟩, rfl⟩)
        have hfl : a.fl.length ≤ 1048576 := by omega
        go_loop [9, 11] (fun s c => ∃ (j : Nat) (t : Int), j ≤ a.fl.length ∧ c = .int .i64 j ∧ 0 ≤ t ∧ t ≤ 1048576 ∧ s = .int .i64 t) (fun _ c => a.fl.length - (intOf c).toNat)
        case atStart => exact ⟨0, _, Nat.zero_le _, rfl, by omega, by omega, rfl⟩
        case round =>
          obtain ⟨j, t2, hjl, rfl, ht20, ht2, rfl⟩ := hrel
          by_cases hjt : j < a.fl.length
          · obtain ⟨fb, foff, rfl, hcf⟩ := Hpl.out (by omega)
            obtain ⟨p0, p1, p2⟩ := hcf j hjt
            clear hcf
            generalize a.fl.getD j noPl = p at *
            go_wp2
            all_goals try (go_ret; exact ⟨⟨false, rfl⟩, rfl⟩)
            go_round
            case rel => exact ⟨j + 1, _, by omega, by go_num, by omega, by omega, rfl⟩
            case measure => simp [intOf]; omega
          · go_wp2
            exact ⟨⟨i + 1, t2, by omega, by go_num, ht20, ht2, rfl⟩, by simp [intOf]; omega⟩
      · go_wp2
        go_ret
        exact ⟨⟨true, rfl⟩, rfl⟩
  · go_enter Try.func12, Try.ntmps12
    go_wp2
    go_ret
    exact ⟨⟨false, rfl⟩, rfl⟩

end Go.Proofs.Qxb6628733a
