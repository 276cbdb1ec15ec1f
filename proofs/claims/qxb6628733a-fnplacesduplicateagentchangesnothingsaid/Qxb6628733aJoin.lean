import Derived.Test.Qxb6628733aReads
namespace Go.Proofs.Qxb6628733a
open Go.RowKit

theorem OwnPl_snoc {w3 : World} {B g cap : Nat} {L : List Pl} {p : Pl} {n : Nat} (hn : n = L.length) (h : w3.ownsRow B 33 3 (.slice (some ⟨g, 0, none⟩) (n + 1) cap) (n + 1) (PlCells L ++ [.int .i64 p.k, .string p.f, .string p.s])) :
    OwnPl w3 B (.slice (some ⟨g, 0, none⟩) (n + 1) cap) (L ++ [p]) := by
  show World.ownsRow _ _ _ _ _ _ _
  have e : PlCells L ++ [.int .i64 p.k, .string p.f, .string p.s] = PlCells (L ++ [p]) := by simp [PlCells, plCs]
  rw [e] at h
  have e2 : (L ++ [p]).length = n + 1 := by simp [hn]
  rw [e2]; exact h

theorem take_snoc' {α : Type} (L : List α) (d : α) (j : Nat) (h : j < L.length) : L.take (j + 1) = L.take j ++ [L.getD j d] := by
  rw [List.take_add_one]; simp [List.getD, List.getElem?_eq_getElem h]

set_option maxHeartbeats 1000000 in
theorem join_any (ao bo : Option Addr) (ca cb : Nat) (L R : List Pl) (w : World) (hL : L.length ≤ 200000) (hR : R.length ≤ 200000) (ha : PlsAt w ao L) (hb : PlsAt w bo R) :
    Calls Try.prog 10 #[.slice ao L.length ca, .slice bo R.length cb] w fun e w' => ∃ v, e = .returned v ∧ OwnPl w' w.heap.size v (joinL L R) ∧ Below w.heap.size w w' := by
  obtain ⟨i0, hi, hz0, hz1, hz2⟩ := info_parts info33
  have Ha := hid ha
  have Hb := hid hb
  clear ha hb
  go_enter Try.func10, Try.ntmps10
  go_wp2_with (at_make; refine wpList_make_own _ rfl _ _ 28 rfl w.heap.size 33 i0 _ 3 Try.underlying28 hi hz0 hz1 _ _ _ (L.length + R.length) rfl rfl (by omega) (by rw [hz2]; omega) (by unfold maxLen; omega) (by simp) ?_; intro w1 hown1 hgrow1)
  have hb1 : Below w.heap.size w w1 := (Below.refl _ _).grown hgrow1 (Nat.le_refl _) (by simp)
  clear hgrow1
  go_loopw [5, 6] (fun v i wr => ∃ j : Nat, j ≤ L.length ∧ i = .int .i64 j ∧ v = .slice (some ⟨w.heap.size, 0, none⟩) j (L.length + R.length) ∧ OwnPl wr w.heap.size v (L.take j) ∧ Below w.heap.size w wr) (fun _ i _ => L.length - (intOf i).toNat)
  case atStart => exact ⟨0, Nat.zero_le _, rfl, rfl, hown1, hb1⟩
  case round =>
    obtain ⟨j, hj, rfl, rfl, hown, hbel⟩ := hrel
    clear hown1 hb1
    have Ho : Hid (wr.ownsRow w.heap.size 33 3 (.slice (some ⟨w.heap.size, 0, none⟩) j (L.length + R.length)) j (PlCells (L.take j))) := by
      have h : World.ownsRow _ _ _ _ _ _ _ := hown
      rw [show (L.take j).length = j by simp; omega] at h; exact h
    have Hbl := hid hbel
    by_cases hlt : j < L.length
    · obtain ⟨b, o, rfl, hc⟩ := Ha.out (by omega)
      have hbb := World.block_lt_of_cell? _ _ (hc j hlt).1
      obtain ⟨c0, c1, c2⟩ := PlAt_later (hc j hlt) hbel hbb
      have Ht := hid (take_snoc' L noPl j hlt)
      clear hown hbel hc
      generalize L.getD j noPl = p at *
      go_wp2_with (at_builtin; refine wpList_append_fits _ rfl (.tmp 22) (.tmp 27) 28 rfl w.heap.size 33 i0 3 Try.underlying28 hi hz1 w.heap.size j (L.length + R.length) _ rfl (Ho.out.alloc _) ⟨wr.heap.size, 0, none⟩ 1 1 [.int .i64 p.k, .string p.f, .string p.s] rfl rfl (cell_three_new _ _ _ _ _) (by intro u hu; simp at hu; rcases hu with rfl | rfl | rfl <;> rfl) (by omega) ?_; intro w3 hown3 hgrow3)
      have Ho3 : Hid (OwnPl w3 w.heap.size (.slice (some ⟨w.heap.size, 0, none⟩) (j + 1) (L.length + R.length)) (L.take (j + 1))) := by
        rw [Ht.out]; exact OwnPl_snoc (by simp; omega) hown3
      have hgw : w.heap.size < wr.heap.size := (Ho.out.lt _ rfl).2
      have Hb3 : Hid (Below w.heap.size w w3) := (Hbl.out.alloc (by omega) _).grown hgrow3 (by simp; omega) (by intro q hq; cases hq; exact Nat.le_refl _)
      clear hown3 hgrow3
      go_wp2
      go_roundw
      case rel => exact ⟨j + 1, by omega, by go_num, rfl, Ho3.out, Hb3.out⟩
      case measure => simp [intOf]; omega
    · obtain rfl : j = L.length := by omega
      go_wp2
      have Ho' : Hid (OwnPl wr w.heap.size (.slice (some ⟨w.heap.size, 0, none⟩) L.length (L.length + R.length)) L) := by
        have h := hown; rw [List.take_of_length_le (Nat.le_refl _)] at h; exact h
      clear hown hbel Ho
      go_loopw [5, 7] (fun v i wr => ∃ (j : Nat) (X : List Pl), j ≤ R.length ∧ i = .int .i64 j ∧ X = joinL L (R.take j) ∧ v = .slice (some ⟨w.heap.size, 0, none⟩) X.length (L.length + R.length) ∧ OwnPl wr w.heap.size v X ∧ Below w.heap.size w wr) (fun _ i _ => R.length - (intOf i).toNat)
      case atStart => exact ⟨0, L, Nat.zero_le _, rfl, by simp [joinL], rfl, Ho'.out, Hbl.out⟩
      case round =>
        obtain ⟨j, X, hj, rfl, hX, rfl, hown, hbel⟩ := hrel
        have HX := hid hX
        have hXl : X.length ≤ L.length + j := by
          rw [hX]; unfold joinL
          have := List.length_filter_le (fun p => !holds L p) (R.take j)
          simp only [List.length_append, List.length_take] at *; omega
        clear hX Ho' Hbl
        by_cases hlt2 : j < R.length
        · obtain ⟨b2, o2, rfl, hc2⟩ := Hb.out (by omega)
          have hbb2 := World.block_lt_of_cell? _ _ (hc2 j hlt2).1
          obtain ⟨d0, d1, d2⟩ := PlAt_later (hc2 j hlt2) hbel hbb2
          have Ht := hid (take_snoc' R noPl j hlt2)
          have Ho := hid hown
          have Hbl := hid hbel
          have HA2 : Hid (PlsAt wr ao L) := PlsAt_later Ha.out hbel
          clear hown hbel hc2
          generalize R.getD j noPl = p at *
          obtain ⟨wo, rfl⟩ : ∃ wo : World, wo = wr := ⟨_, rfl⟩
          go_wp2
          go_loopw [8, 9] (fun s i wr => ∃ q nq : Nat, q ≤ L.length ∧ s = .bool false ∧ i = .int .i64 q ∧ (∀ i', i' < q → same (L.getD i' noPl) p = false) ∧ wr = wo.drewN nq) (fun _ i _ => L.length - (intOf i).toNat)
          case atStart => exact ⟨0, 0, Nat.zero_le _, rfl, rfl, fun i' h => by omega, rfl⟩
          case round =>
            obtain ⟨q, nq, hq, rfl, rfl, hno, rfl⟩ := hrel
            by_cases hql : q < L.length
            · obtain ⟨b1, o1, rfl, hc1⟩ := HA2.out (by omega)
              obtain ⟨e0, e1, e2⟩ := hc1 q hql
              have Hno := hid hno
              clear hc1 hno
              have l1 : (q : Int) < (L.length : Int) := by omega
              have l2 : (j : Int) < (R.length : Int) := by omega
              cases hres : same (L.getD q noPl) p with
              | true =>
                have Hh : Hid (holds L p = true) := (holds_iff _ _).2 ⟨L.getD q noPl, by simp [List.getD, List.getElem?_eq_getElem hql], hres⟩
                have hres' : ((L.getD q noPl).f.toList == p.f.toList) = true := hres
                clear hres
                have HX' : Hid (X = joinL L (R.take (j + 1))) := by
                  show _ = _
                  rw [Ht.out, HX.out]; unfold joinL; rw [List.filter_append]; simp [Hh.out]
                generalize L.getD q noPl = r at *
                go_wp2
                go_quiet (fail)
                go_wp2
                exact ⟨⟨j + 1, X, by omega, by go_num, HX'.out, rfl, Ho.out, below_drewN Hbl.out _⟩, by simp [intOf]; omega⟩
              | false =>
                have Hall : Hid (∀ i', i' < q + 1 → same (L.getD i' noPl) p = false) := fun i' hi' => by
                  by_cases h : i' < q
                  · exact Hno.out i' h
                  · obtain rfl : i' = q := by omega
                    exact hres
                have hres' : ((L.getD q noPl).f.toList == p.f.toList) = false := hres
                clear hres Hno
                generalize L.getD q noPl = r at *
                go_wp2
                go_quiet (fail)
                go_wp2
                go_roundw
                case rel => exact ⟨q + 1, _, by omega, rfl, by go_num, Hall.out, rfl⟩
                case measure => simp [intOf]; omega
            · have Hh : Hid (holds L p = false) := by
                show _ = _
                rw [Bool.eq_false_iff]
                intro h
                obtain ⟨r, hr, hs⟩ := (holds_iff _ _).1 h
                obtain ⟨i, hi', rfl⟩ := List.mem_iff_getElem.1 hr
                have := hno i (by omega)
                simp only [List.getD, List.getElem?_eq_getElem hi', Option.getD_some] at this
                rw [hs] at this; cases this
              have HX' : Hid (joinL L (R.take (j + 1)) = X ++ [p]) := by
                show _ = _
                rw [Ht.out, HX.out]; unfold joinL; rw [List.filter_append]; simp [Hh.out]
              clear hno
              have hown4 : (wo.drewN nq).ownsRow w.heap.size 33 3 (.slice (some ⟨w.heap.size, 0, none⟩) X.length (L.length + R.length)) X.length (PlCells X) := Ho.out
              have Ho4 := hid hown4
              have hgw : w.heap.size < wo.heap.size := (Ho.out.lt _ rfl).2
              clear hown4
              go_wp2_with (at_builtin; refine wpList_append_fits _ rfl (.tmp 54) (.tmp 59) 28 rfl w.heap.size 33 i0 3 Try.underlying28 hi hz1 w.heap.size X.length (L.length + R.length) _ rfl (Ho4.out.alloc _) ⟨wo.heap.size, 0, none⟩ 1 1 [.int .i64 p.k, .string p.f, .string p.s] rfl rfl (cell_three_new _ _ _ _ _) (by intro u hu; simp at hu; rcases hu with rfl | rfl | rfl <;> rfl) (by omega) ?_; intro w3 hown3 hgrow3)
              have Ho5 := hid (OwnPl_snoc rfl hown3)
              have Hb5 : Hid (Below w.heap.size w w3) := ((below_drewN Hbl.out nq).alloc (by simp; omega) _).grown hgrow3 (by simp; omega) (by intro q hq; cases hq; exact Nat.le_refl _)
              clear hown3 hgrow3
              exact ⟨⟨j + 1, X ++ [p], by omega, by go_num, HX'.out.symm, by simp, Ho5.out, Hb5.out⟩, by simp [intOf]; omega⟩
        · obtain rfl : j = R.length := by omega
          go_wp2
          go_ret
          refine ⟨_, rfl, ?_, hbel⟩
          rw [HX.out, List.take_of_length_le (Nat.le_refl _)] at hown ⊢; exact hown
end Go.Proofs.Qxb6628733a
