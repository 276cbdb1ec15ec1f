import Derived.Test.Qxb6628733aPlaces
namespace Go.Proofs.Qxb6628733a
open Go.RowKit

set_option maxHeartbeats 400000 in
theorem same_true (ao bo : Option Addr) (ca cb : Nat) (L : List Pl) (w : World) (hL : L.length ≤ 2000000) (ha : PlsAt w ao L) (hb : PlsAt w bo L) :
    Calls Try.prog 9 #[.slice ao L.length ca, .slice bo L.length cb] w fun e w' => e = .returned (.bool true) ∧ Below w.heap.size w w' := by
  go_enter Try.func9, Try.ntmps9
  go_wp2
  go_loopw [5] (fun i wr => ∃ j nq : Nat, j ≤ L.length ∧ i = .int .i64 j ∧ wr = w.drewN nq) (fun i _ => L.length - (intOf i).toNat)
  case atStart => exact ⟨0, 0, Nat.zero_le _, rfl, rfl⟩
  case round =>
    obtain ⟨j, nq, hj, rfl, rfl⟩ := hrel
    by_cases hlt : j < L.length
    · obtain ⟨b1, o1, rfl, hc1⟩ := ha (by omega)
      obtain ⟨b2, o2, rfl, hc2⟩ := hb (by omega)
      obtain ⟨x0, x1, x2⟩ := hc1 j hlt
      obtain ⟨y0, y1, y2⟩ := hc2 j hlt
      clear hc1 hc2 ha hb
      generalize L.getD j noPl = p at *
      have l1 : (j : Int) < (L.length : Int) := by omega
      go_wp2
      go_quiet (fail)
      go_wp2
      go_roundw
      case rel => exact ⟨j + 1, _, by omega, by go_num, rfl⟩
      case measure => simp [intOf]; omega
    · go_wp2
      go_ret
      exact ⟨rfl, below_drewN (Below.refl _ _) _⟩

theorem two_alloc (w : World) (a b : Obj) : Below w.heap.size w ((w.alloc a).alloc b) :=
  ((Below.refl _ _).alloc (Nat.le_refl _) _).alloc (by simp) _

theorem below_two {w wr : World} {a b : Obj} (h : Below ((w.alloc a).alloc b).heap.size ((w.alloc a).alloc b) wr) : Below w.heap.size w wr :=
  (two_alloc w a b).trans (h.mono (by simp; omega))

set_option maxHeartbeats 400000 in
theorem reads_any (a : Ag) (fo : Option Addr) (fc : Nat) (k : Int) (w : World) (hL : a.fl.length ≤ 2000000) (hp : PlsAt w fo a.fl) :
    Calls Try.prog 11 #[agV a fo fc, .int .i64 k] w fun e w' => e = .returned (.tuple #[plV ((reads a k).getD noPl), .bool (reads a k).isSome]) ∧ Below w.heap.size w w' := by
  unfold agV
  by_cases hk : k = 0
  · subst hk
    have Hr : Hid (reads a 0 = some ⟨0, a.fd, slash⟩) := if_pos rfl
    clear hp
    go_enter Try.func11, Try.ntmps11
    go_wp2
    exact bodyPost_ret (v := .tuple #[.agg #[.int .i64 0, .string a.fd, .string slash], .bool true]) (by simp [results, Try.results11, go_sem, slash]) rfl ⟨by rw [Hr.out]; rfl, two_alloc w _ _⟩
  · have hkb : (k == 0) = false := by simpa using hk
    have Hp := hid hp
    clear hp
    go_enter Try.func11, Try.ntmps11
    go_wp2
    go_loop [6] (fun i => ∃ j : Nat, j ≤ a.fl.length ∧ i = .int .i64 j ∧ ∀ i', i' < j → (fun p : Pl => p.k == k) (a.fl.getD i' noPl) = false) (fun i => a.fl.length - (intOf i).toNat)
    case atStart => exact ⟨0, Nat.zero_le _, rfl, fun i' h => by omega⟩
    case round =>
      obtain ⟨j, hj, rfl, hno⟩ := hrel
      by_cases hlt : j < a.fl.length
      · obtain ⟨bb, o, rfl, hcells⟩ := Hp.out (by omega)
        obtain ⟨c0, c1, c2⟩ := hcells j hlt
        have hbb := World.block_lt_of_cell? _ _ c0
        have Hno := hid hno
        clear hno hcells Hp
        cases hres : (fun p : Pl => p.k == k) (a.fl.getD j noPl) with
        | true =>
          have Hr : Hid (reads a k = some (a.fl.getD j noPl)) := by
            show _ = _
            unfold reads; rw [if_neg hk]; exact find_some hlt hres Hno.out
          have hres' : ((a.fl.getD j noPl).k == k) = true := hres
          clear hres
          generalize a.fl.getD j noPl = p at *
          go_wp2
          exact bodyPost_ret (v := .tuple #[.agg #[.int .i64 p.k, .string p.f, .string p.s], .bool true]) (by simp [results, Try.results11, go_sem]) rfl ⟨by rw [Hr.out]; rfl, three_alloc w _ _ _⟩
        | false =>
          have Hall : Hid (∀ i', i' < j + 1 → (fun p : Pl => p.k == k) (a.fl.getD i' noPl) = false) := fun i' hi' => by
            by_cases h : i' < j
            · exact Hno.out i' h
            · obtain rfl : i' = j := by omega
              exact hres
          have hres' : ((a.fl.getD j noPl).k == k) = false := hres
          clear hres Hno
          generalize a.fl.getD j noPl = p at *
          go_wp2
          go_round
          case rel => exact ⟨j + 1, by omega, by go_num, Hall.out⟩
          case measure => simp [intOf]; omega
      · have Hr : Hid (reads a k = none) := by
          show _ = _
          unfold reads; rw [if_neg hk]; exact find_none fun i hi => hno i (by omega)
        clear hno Hp
        go_wp2
        exact bodyPost_ret (v := .tuple #[.agg #[.int .i64 0, .string ⟨#[]⟩, .string ⟨#[]⟩], .bool false]) (by simp [results, Try.results11, go_sem]) rfl ⟨by rw [Hr.out]; rfl, two_alloc w _ _⟩
end Go.Proofs.Qxb6628733a
