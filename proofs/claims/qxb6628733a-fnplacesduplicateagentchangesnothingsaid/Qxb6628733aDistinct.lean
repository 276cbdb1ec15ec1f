import Derived.Test.Qxb6628733aGuards
namespace Go.Proofs.Qxb6628733a
open Go.RowKit

theorem info9 : (Try.prog.info? 9).map (fun i => (i.zero, i.size, i.bytes)) = some (some (.string ⟨#[]⟩), 1, 16) := by kernel_rfl

def fdCs (L : List Pl) : List Value := L.map (fun p => Value.string p.f)
theorem fdCs_length (L : List Pl) : (fdCs L).length = L.length := by simp [fdCs]
theorem fdCs_get (L : List Pl) (i : Nat) (h : i < L.length) : (fdCs L)[i]? = some (.string (L.getD i noPl).f) := by
  simp [fdCs, List.getD, h]

set_option maxHeartbeats 1000000 in
theorem distinct_any (ao : Option Addr) (cap : Nat) (As : List Ag) (k : Int) (w : World) (hn : As.length ≤ 65536) (hfl : ∀ i, i < As.length → (As.getD i noAg).fl.length ≤ 1048576) (hA : AgsAt w ao As) :
    Calls Try.prog 13 #[.slice ao As.length cap, .int .i64 k] w fun e w' => e = .returned (.int .i64 ((places As k).length : Nat)) ∧ Below w.heap.size w w' := by
  obtain ⟨i0, hi, hz0, hz1, hz2⟩ := info_parts info9
  have HA := hid hA
  have Hfl := hid hfl
  clear hA hfl
  go_enter Try.func13, Try.ntmps13
  go_wp2_with (at_make; refine wpList_make_own _ rfl _ _ 48 rfl w.heap.size 9 i0 _ 1 Try.underlying48 hi hz0 hz1 _ _ _ As.length rfl rfl (by omega) (by rw [hz2]; omega) (by unfold maxLen; omega) (by simp) ?_; intro w1 hown1 hgrow1)
  have hb1 : Below w.heap.size w w1 := (Below.refl _ _).grown hgrow1 (Nat.le_refl _) (by simp)
  clear hgrow1
  go_loopw [5, 6] (fun v c wr => ∃ (j : Nat) (L : List Pl), j ≤ As.length ∧ c = .int .i64 j ∧ L = places (As.take j) k ∧ v = .slice (some ⟨w.heap.size, 0, none⟩) L.length As.length ∧ wr.ownsRow w.heap.size 9 1 v L.length (fdCs L) ∧ Below w.heap.size w wr) (fun _ c _ => As.length - (intOf c).toNat)
  case atStart => exact ⟨0, [], Nat.zero_le _, rfl, rfl, rfl, hown1, hb1⟩
  case round =>
    obtain ⟨j, L, hj, rfl, hLe, rfl, hown, hbel⟩ := hrel
    clear hown1 hb1
    have HLe := hid hLe
    have hLl : L.length ≤ j := by rw [hLe]; have := places_length (As.take j) k; simp at this; omega
    clear hLe
    by_cases hlt : j < As.length
    · obtain ⟨b, o, rfl, hc⟩ := HA.out (by omega)
      obtain ⟨c0, c1, fo, fc, c2, hpls, _⟩ := AgAt_later (hc j hlt) hbel
      have hflj := Hfl.out j hlt
      have Hsn : Hid (places (As.take (j + 1)) k = addP L (reads (As.getD j noAg) k)) := by
        show _ = _
        rw [HLe.out, ← places_snoc]; congr 1
        rw [List.take_add_one]; simp [List.getD, List.getElem?_eq_getElem hlt]
      clear hc
      generalize As.getD j noAg = a at *
      have Ho := hid hown
      have Hb := hid hbel
      have Hp := hid hpls
      have hwr := hbel.size
      have hgw : w.heap.size < wr.heap.size := (hown.lt _ rfl).2
      clear hown hbel hpls
      have Hreads := hid (reads_any a fo fc k wr (by omega) Hp.out)
      unfold agV at Hreads
      go_wp2_with fail
      refine Hreads.out.mono ?_
      rintro e w2 ⟨rfl, hb2⟩
      have hw2 := hb2.size
      have Hb2 := hid hb2
      clear hb2 Hreads
      cases hr : reads a k with
      | none =>
        rw [hr] at Hsn
        have Hsn' : Hid (L = places (As.take (j + 1)) k) := Hsn.out.symm
        clear hr
        simp only [Option.getD_none, Option.isSome_none]
        unfold plV
        have HO2 := hid fun (ob : Obj) => owns_later Ho.out (Hb2.out.trans ((below_alloc w2 ob).mono hw2))
        have HB2 := hid fun (ob : Obj) => Hb.out.trans ((Hb2.out.trans ((below_alloc w2 ob).mono hw2)).mono hwr)
        go_wp2
        go_roundw
        case rel => exact ⟨j + 1, L, by omega, by go_num, Hsn'.out, rfl, HO2.out _, HB2.out _⟩
        case measure => simp [intOf]; omega
      | some p =>
        rw [hr] at Hsn
        clear hr
        simp only [Option.getD_some, Option.isSome_some]
        unfold plV
        have hO3 := owns_later Ho.out (Hb2.out.trans ((below_alloc w2 (.cells #[.int .i64 p.k, .string p.f, .string p.s] 33)).mono hw2))
        have hB3 := Hb.out.trans ((Hb2.out.trans ((below_alloc w2 (.cells #[.int .i64 p.k, .string p.f, .string p.s] 33)).mono hw2)).mono hwr)
        have hpf : (w2.alloc (.cells #[.int .i64 p.k, .string p.f, .string p.s] 33)).cell? ⟨w2.heap.size, 1, none⟩ = some (.string p.f) := by simp
        go_wp2
        generalize w2.alloc (.cells #[.int .i64 p.k, .string p.f, .string p.s] 33) = wo at *
        have Ho3 := hid hO3
        have Hb3 := hid hB3
        have hgo : w.heap.size < wo.heap.size := (hO3.lt _ rfl).2
        have Hcell : Hid (∀ q, q < L.length → wo.cell? ⟨w.heap.size, q, none⟩ = some (.string (L.getD q noPl).f)) := fun q hq => by
          rw [hO3.cellAt q (by omega)]; exact fdCs_get L q hq
        clear hO3 hB3 Ho Hb Hb2
        go_loopw [9, 10] (fun s c wr => ∃ q nq : Nat, q ≤ L.length ∧ s = .bool false ∧ c = .int .i64 q ∧ (∀ i', i' < q → same (L.getD i' noPl) p = false) ∧ wr = wo.drewN nq) (fun _ c _ => L.length - (intOf c).toNat)
        case atStart => exact ⟨0, 0, Nat.zero_le _, rfl, rfl, fun i' h => by omega, rfl⟩
        case round =>
          obtain ⟨q, nq, hq, rfl, rfl, hno, rfl⟩ := hrel
          by_cases hql : q < L.length
          · have e1 := Hcell.out q hql
            have Hno := hid hno
            clear hno
            have l1 : (q : Int) < (L.length : Int) := by omega
            cases hres : same (L.getD q noPl) p with
            | true =>
              have hh : holds L p = true := (holds_iff _ _).2 ⟨L.getD q noPl, by simp [List.getD, List.getElem?_eq_getElem hql], hres⟩
              have Hsn' : Hid (L = places (As.take (j + 1)) k) := by rw [Hsn.out]; exact (if_pos hh).symm
              have hres' : ((L.getD q noPl).f.toList == p.f.toList) = true := hres
              clear hres hh
              generalize L.getD q noPl = r at *
              go_wp2
              go_quiet (fail)
              go_wp2
              exact ⟨⟨j + 1, L, by omega, by go_num, Hsn'.out, rfl, Ho3.out, below_drewN Hb3.out _⟩, by simp [intOf]; omega⟩
            | false =>
              have Hall : Hid (∀ i', i' < q + 1 → same (L.getD i' noPl) p = false) := fun i' hi' => by
                by_cases h : i' < q
                · exact Hno.out i' h
                · obtain rfl : i' = q := by omega
                  exact hres
              have hres' : ((L.getD q noPl).f.toList == p.f.toList) = false := hres
              clear hres Hno
              generalize L.getD q noPl = r at *
              go_wp2
              go_quiet (fail)
              go_wp2
              go_roundw
              case rel => exact ⟨q + 1, _, by omega, rfl, by go_num, Hall.out, rfl⟩
              case measure => simp [intOf]; omega
          · have hh : holds L p = false := by
              rw [Bool.eq_false_iff]
              intro h
              obtain ⟨r, hr, hs⟩ := (holds_iff _ _).1 h
              obtain ⟨i, hi', rfl⟩ := List.mem_iff_getElem.1 hr
              have := hno i (by omega)
              simp only [List.getD, List.getElem?_eq_getElem hi', Option.getD_some] at this
              rw [hs] at this; cases this
            have Hsn' : Hid (L ++ [p] = places (As.take (j + 1)) k) := by rw [Hsn.out]; exact (if_neg (by rw [hh]; simp)).symm
            clear hno hh
            have hown4 : (wo.drewN nq).ownsRow w.heap.size 9 1 (.slice (some ⟨w.heap.size, 0, none⟩) L.length As.length) L.length (fdCs L) := Ho3.out
            have Ho4 := hid hown4
            clear hown4
            go_wp2_with (at_builtin; refine wpList_append_fits _ rfl (.tmp 46) (.tmp 49) 48 rfl w.heap.size 9 i0 1 Try.underlying48 hi hz1 w.heap.size L.length As.length _ rfl (Ho4.out.alloc _) ⟨wo.heap.size, 0, none⟩ 1 1 [.string p.f] rfl rfl (cell_one_new _ _ _) (by intro u hu; simp at hu; subst hu; rfl) (by omega) ?_; intro w3 hown3 hgrow3)
            have Ho5 : Hid (w3.ownsRow w.heap.size 9 1 (.slice (some ⟨w.heap.size, 0, none⟩) (L ++ [p]).length As.length) (L ++ [p]).length (fdCs (L ++ [p]))) := by
              have e : fdCs L ++ [.string p.f] = fdCs (L ++ [p]) := by simp [fdCs]
              rw [e] at hown3
              show World.ownsRow _ _ _ _ _ _ _
              rw [show (L ++ [p]).length = L.length + 1 by simp]; exact hown3
            have Hb5 : Hid (Below w.heap.size w w3) := ((below_drewN Hb3.out nq).alloc (by simp; omega) _).grown hgrow3 (by simp; omega) (by intro q hq; cases hq; exact Nat.le_refl _)
            clear hown3 hgrow3
            exact ⟨⟨j + 1, L ++ [p], by omega, by go_num, Hsn'.out, by simp, by have := Ho5.out; simpa using this, Hb5.out⟩, by simp [intOf]; omega⟩
    · obtain rfl : j = As.length := by omega
      go_wp2
      go_ret
      exact ⟨ret_int (by rw [HLe.out, List.take_of_length_le (Nat.le_refl _)]), hbel⟩
end Go.Proofs.Qxb6628733a
