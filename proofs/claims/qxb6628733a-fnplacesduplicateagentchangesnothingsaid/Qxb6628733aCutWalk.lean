import Derived.Test.Qxb6628733aDistinct
namespace Go.Proofs.Qxb6628733a
open Go.RowKit

theorem places_n (ao : Option Addr) (cap n : Nat) (As : List Ag) (k : Int) (w : World) (hl : As.length = n) (hn : n ≤ 100000) (hfl : ∀ i, i < n → (As.getD i noAg).fl.length ≤ 2000000) (hA : AgsAt w ao As) :
    Calls Try.prog 8 #[.slice ao n cap, .int .i64 k] w fun e w' => ∃ fo c, e = .returned (.slice fo (places As k).length c) ∧ PlsAt w' fo (places As k) ∧ (∀ ad, fo = some ad → ∃ g, ad = ⟨g, 0, none⟩) ∧ Below w.heap.size w w' := by
  subst hl
  refine (places_any ao cap As k w hn hfl hA).mono ?_
  rintro e w' ⟨v, rfl, hown, hb⟩
  obtain ⟨fo, c, rfl, hp, hg, _⟩ := OwnPl_form hown
  exact ⟨fo, c, rfl, hp, fun ad had => (by obtain ⟨g, h, _⟩ := hg ad had; exact ⟨g, h⟩), hb⟩

theorem AgsAt_take {w : World} {g o : Nat} {As : List Ag} (h : AgsAt w (some ⟨g, o, none⟩) As) (C : Nat) (hC : C ≤ As.length) : AgsAt w (some ⟨g, o, none⟩) (As.take C) := fun hp => by
  have hl : (As.take C).length = C := by simp; omega
  rw [hl] at hp
  obtain ⟨b, o', hb, hc⟩ := h (by omega)
  cases hb
  refine ⟨g, o, rfl, fun i hi => ?_⟩
  rw [hl] at hi
  have e : (As.take C).getD i noAg = As.getD i noAg := by simp [List.getD, hi]
  rw [e]; exact hc i (by omega)
theorem AgsAt_drop {w : World} {g o : Nat} {As : List Ag} (h : AgsAt w (some ⟨g, o, none⟩) As) (C : Nat) : AgsAt w (some ⟨g, o + C * 3, none⟩) (As.drop C) := fun hp => by
  have hl : (As.drop C).length = As.length - C := by simp
  rw [hl] at hp
  obtain ⟨b, o', hb, hc⟩ := h (by omega)
  cases hb
  refine ⟨g, o + C * 3, rfl, fun i hi => ?_⟩
  rw [hl] at hi
  have e : (As.drop C).getD i noAg = As.getD (C + i) noAg := by simp [List.getD, List.getElem?_drop]
  have h2 := hc (C + i) (by omega)
  rw [show o + (C + i) * 3 = o + C * 3 + i * 3 by omega] at h2
  rw [e]; exact h2

theorem fl_sub {As Bs : List Ag} (h : ∀ i, i < As.length → (As.getD i noAg).fl.length ≤ 1048576) (hs : ∀ b ∈ Bs, b ∈ As) : ∀ i, i < Bs.length → (Bs.getD i noAg).fl.length ≤ 2000000 := by
  intro i hi
  have e : Bs.getD i noAg = Bs[i] := by simp [List.getD, hi]
  rw [e]
  obtain ⟨j, hj, he⟩ := List.mem_iff_getElem.1 (hs _ (List.getElem_mem hi))
  have := h j hj
  have e2 : As.getD j noAg = As[j] := by simp [List.getD, hj]
  rw [e2, he] at this; omega

set_option maxRecDepth 100000 in
set_option maxHeartbeats 1000000 in
theorem cut_row (ad : Addr) (cap : Nat) (As : List Ag) (k c : Int) (w : World) (hm : As.length ≤ maxLen) (hA : AgsAt w (some ad) As) :
    Calls Try.prog 3 #[.slice (some ad) As.length cap, .int .i64 k, .int .i64 c] w fun e w' => e = .returned (.bool true) ∧ Below w.heap.size w w' := by
  have HA := hid hA
  have Hm := hid hm
  clear hA hm
  go_enter Try.func3, Try.ntmps3
  go_wp2_with fail
  refine (zz5_any (some ad) cap As k c w Hm.out HA.out).mono ?_
  rintro e w1 ⟨⟨ok, rfl⟩, hw1⟩
  subst hw1
  cases ok with
  | false =>
    go_wp2
    go_ret
    exact ⟨rfl, Below.refl _ _⟩
  | true =>
    go_wp2_with fail
    refine (fit_any (some ad) cap As w1 Hm.out HA.out).mono ?_
    rintro e w2 ⟨⟨ok, rfl, hok⟩, hw2⟩
    subst hw2
    cases ok with
    | false =>
      clear hok
      go_wp2
      go_ret
      exact ⟨rfl, Below.refl _ _⟩
    | true =>
      obtain ⟨hn, hfl⟩ := hok rfl
      have Hfl := hid hfl
      clear hfl hok
      by_cases hc0 : 0 ≤ c ∧ c ≤ As.length
      · obtain ⟨hc0, hcn⟩ := hc0
        obtain ⟨C, rfl⟩ := Int.eq_ofNat_of_zero_le hc0
        have hCn : C ≤ As.length := by omega
        go_wp2_with fail
        refine (toAgents_row ad cap As w2 (by omega) (fun i hi => by have := Hfl.out i hi; omega) HA.out).mono ?_
        rintro e w3 ⟨g, rfl, hg3, hA3, hb3⟩
        have Hb3 := hid hb3
        have HA3 := hid hA3
        have hsz3 := hb3.size
        clear hb3 hA3
        go_wp2_with fail
        refine (places_n _ _ _ As k _ rfl (by omega) (fun i hi => by have := Hfl.out i hi; omega) HA3.out).mono ?_
        rintro e w4 ⟨fo1, c1, rfl, hp1, hg1, hb4⟩
        have Hp1 := hid hp1
        have Hb4 := hid hb4
        have hsz4 := hb4.size
        have HA4 := hid (AgsAt_later HA3.out hb4)
        clear hp1 hb4 hg1
        go_wp2_with fail
        refine (places_n _ _ _ (As.take C) k _ (by simp; omega) (by omega) (fun i hi => fl_sub Hfl.out (fun b hb => List.mem_of_mem_take hb) i (by simp; omega)) (AgsAt_take HA4.out C hCn)).mono ?_
        rintro e w5 ⟨fo2, c2, rfl, hp2, hg2, hb5⟩
        have Hp2 := hid hp2
        have Hb5 := hid hb5
        have hsz5 := hb5.size
        have HA5 := hid (AgsAt_later HA4.out hb5)
        have Hp1' := hid (PlsAt_later Hp1.out hb5)
        clear hp2 hb5 hg2 HA4 Hp1
        go_upto_region 11 with fail
        go_cut [11] (fun v wx => ∃ fo3 c3, v = .slice fo3 (places (As.drop C) k).length c3 ∧ PlsAt wx fo3 (places (As.drop C) k) ∧ Below w5.heap.size w5 wx)
        case first =>
          rcases Nat.lt_or_ge C As.length with hCl | hCl
          · go_wp2_with fail
            have hA6 := AgsAt_drop HA5.out C
            rw [Nat.zero_add] at hA6
            refine (places_n _ _ _ (As.drop C) k _ (by simp) (by omega) (fun i hi => fl_sub Hfl.out (fun b hb => List.mem_of_mem_drop hb) i (by simp; omega)) hA6).mono ?_
            rintro e w6 ⟨fo3, c3, rfl, hp3, hg3, hb6⟩
            have Hp3 := hid hp3
            have Hb6 := hid hb6
            clear hp3 hb6 hg3
            go_wp2
            go_meet
            exact ⟨fo3, c3, rfl, Hp3.out, Hb6.out⟩
          · go_wp2_with fail
            have e0 : As.drop C = [] := List.drop_eq_nil_of_le hCl
            refine (places_n _ _ 0 [] k _ rfl (by omega) (fun i hi => by omega) (fun h => by simp at h)).mono ?_
            rintro e w6 ⟨fo3, c3, rfl, hp3, hg3, hb6⟩
            have E0 := hid e0
            clear e0
            have Hp3 := hid hp3
            have Hb6 := hid hb6
            clear hp3 hb6 hg3
            go_wp2
            go_meet
            exact ⟨fo3, c3, by rw [E0.out], by rw [E0.out]; exact Hp3.out, Hb6.out⟩
        case rest =>
          obtain ⟨fo3, c3, rfl, hp3, hb6⟩ := hcut
          have hpl := places_append (As.take C) (As.drop C) k
          rw [List.take_append_drop] at hpl
          have l1 := places_length (As.take C) k
          have l2 := places_length (As.drop C) k
          simp only [List.length_take, List.length_drop] at l1 l2
          obtain ⟨w6, rfl⟩ : ∃ w6 : World, w6 = wc := ⟨_, rfl⟩
          have HA6 := hid (AgsAt_later HA5.out hb6)
          have Hp2' := hid (PlsAt_later Hp2.out hb6)
          have Hp1'' := hid (PlsAt_later Hp1'.out hb6)
          have Hp3 := hid hp3
          have Hb6 := hid hb6
          have hsz6 := hb6.size
          have Hpl := hid hpl
          clear hp3 hb6 hpl HA5 Hp1' Hp2
          generalize places (As.take C) k = PL at *
          generalize places (As.drop C) k = PR at *
          generalize places As k = PW at *
          go_wp2_with fail
          refine (join_any fo2 fo3 c2 c3 PL PR w6 (by omega) (by omega) Hp2'.out Hp3.out).mono ?_
          rintro e w7 ⟨v7, rfl, hown7, hb7⟩
          obtain ⟨fo7, c7, rfl, hp7, _⟩ := OwnPl_form hown7
          have Hp7 := hid hp7
          have Hb7 := hid hb7
          have hsz7 := hb7.size
          have HA7 := hid (AgsAt_later HA6.out hb7)
          have Hp17 := hid (PlsAt_later Hp1''.out hb7)
          clear hp7 hb7 hown7 HA6 Hp1'' Hp2' Hp3
          go_wp2_with fail
          rw [Hpl.out] at Hp17 ⊢
          have hjl : (joinL PL PR).length ≤ 2000000 := by
            unfold joinL
            have := List.length_filter_le (fun p => !holds PL p) PR
            simp only [List.length_append]; omega
          refine (same_true fo1 fo7 c1 c7 (joinL PL PR) w7 hjl Hp17.out Hp7.out).mono ?_
          rintro e w8 ⟨rfl, hb8⟩
          have HA8 := hid (AgsAt_later HA7.out hb8)
          have hB8 : Below w2.heap.size w2 w8 := by
            have h3 := Hb3.out
            have h4 := h3.trans (Hb4.out.mono h3.size)
            have h5 := h4.trans (Hb5.out.mono h4.size)
            have h6 := h5.trans (Hb6.out.mono h5.size)
            have h7 := h6.trans (Hb7.out.mono h6.size)
            exact h7.trans (hb8.mono h7.size)
          have HB8 := hid hB8
          clear hb8 hB8 HA7 Hp17 Hp7 Hb3 Hb4 Hb5 Hb6 Hb7 Hpl hjl
          go_wp2
          go_loopw [12] (fun c wr => ∃ j : Nat, j ≤ As.length ∧ c = .int .i64 j ∧ Below w2.heap.size w2 wr ∧ Below w8.heap.size w8 wr) (fun c _ => As.length - (intOf c).toNat)
          case atStart => exact ⟨0, Nat.zero_le _, rfl, HB8.out, Below.refl _ _⟩
          case round =>
            obtain ⟨j, hj, rfl, hbA, hbB⟩ := hrel
            by_cases hlt : j < As.length
            · have HBA := hid hbA
              have HBB := hid hbB
              have HAw := hid (AgsAt_later HA8.out hbB)
              have HAi := hid (AgsAt_later HA.out hbA)
              clear hbA hbB
              have hA1 : AgsAt wr (some ⟨g, j * 3, none⟩) [As.getD j noAg] := fun _ => by
                obtain ⟨b, o', hb, hc⟩ := HAw.out (by omega)
                cases hb
                refine ⟨g, j * 3, rfl, fun i hi => ?_⟩
                obtain rfl : i = 0 := by simpa using hi
                have := hc j hlt
                rw [Nat.zero_add] at this
                exact this
              have HA1 := hid hA1
              clear hA1
              have hflj := Hfl.out j hlt
              go_wp2_with fail
              refine (places_n _ _ 1 [As.getD j noAg] k _ rfl (by omega) (fun i hi => by have hi0 : i = 0 := (by omega); subst hi0; show (As.getD j noAg).fl.length ≤ _; omega) HA1.out).mono ?_
              rintro e w9 ⟨fo9, c9, rfl, hp9, hg9, hb9⟩
              rw [places_one] at hp9 ⊢
              have Hp9 := hid hp9
              have hbA9 := HBA.out.trans (hb9.mono HBA.out.size)
              obtain ⟨b, o, hbo, hci⟩ := HA.out (by omega)
              cases hbo
              obtain ⟨x0, x1, fo, fc, x2, hxp, _⟩ := AgAt_later (hci j hlt) hbA9
              have Hxp := hid hxp
              have HbA9 := hid hbA9
              have HbB9 := hid (HBB.out.trans (hb9.mono HBB.out.size))
              clear hp9 hb9 hci hxp HAw HAi HA1 hbA9
              generalize As.getD j noAg = a at *
              have Hreads := hid (reads_any a fo fc k w9 (by omega) Hxp.out)
              unfold agV at Hreads
              go_wp2_with fail
              refine Hreads.out.mono ?_
              rintro e w10 ⟨rfl, hb10⟩
              have hsz10 := hb10.size
              have HbA10 := hid (HbA9.out.trans (hb10.mono HbA9.out.size))
              have HbB10 := hid (HbB9.out.trans (hb10.mono HbB9.out.size))
              have Hp10 := hid (PlsAt_later Hp9.out hb10)
              clear hb10 Hreads Hp9
              cases hr : reads a k with
              | none =>
                rw [hr] at Hp10
                clear hr
                simp only [Option.getD_none, Option.isSome_none, Option.toList_none, List.length_nil]
                unfold plV
                go_wp2
                exact ⟨⟨j + 1, by omega, by go_num, HbA10.out.alloc HbA10.out.size _, HbB10.out.alloc HbB10.out.size _⟩, by simp [intOf]; omega⟩
              | some p =>
                rw [hr] at Hp10
                clear hr
                simp only [Option.getD_some, Option.isSome_some, Option.toList_some, List.length_singleton]
                unfold plV
                obtain ⟨b9, o9, rfl, hc9⟩ := Hp10.out (by simp)
                obtain ⟨y0, y1, y2⟩ := hc9 0 (by simp)
                have hb9b := World.block_lt_of_cell? _ _ y0
                clear hc9
                simp only [Nat.zero_mul, Nat.add_zero] at y0 y1 y2 hb9b
                go_wp2
                go_quiet (fail)
                go_wp2
                exact ⟨⟨j + 1, by omega, by go_num, below_drewN (HbA10.out.alloc HbA10.out.size _) _, below_drewN (HbB10.out.alloc HbB10.out.size _) _⟩, by simp [intOf]; omega⟩
            · go_wp2
              go_ret
              exact ⟨rfl, hbA⟩
      · by_cases hneg : c < 0
        · clear hc0
          go_wp2
          go_ret
          exact ⟨rfl, Below.refl _ _⟩
        · have hgt : (As.length : Int) < c := by omega
          clear hc0
          go_wp2
          go_ret
          exact ⟨rfl, Below.refl _ _⟩

theorem places_nil (k : Int) : places [] k = [] := rfl
theorem AgsAt_nil (w : World) (ao : Option Addr) : AgsAt w ao [] := fun h => by simp at h
theorem PlsAt_nil (w : World) (fo : Option Addr) : PlsAt w fo [] := fun h => by simp at h

set_option maxRecDepth 100000 in
set_option maxHeartbeats 1000000 in
theorem cut_nil (k c : Int) (w : World) :
    Calls Try.prog 3 #[.slice none 0 0, .int .i64 k, .int .i64 c] w fun e w' => e = .returned (.bool true) ∧ Below w.heap.size w w' := by
  go_enter Try.func3, Try.ntmps3
  go_wp2_with fail
  refine (zz5_any none 0 [] k c w (Nat.zero_le _) (AgsAt_nil _ _)).mono ?_
  rintro e w1 ⟨⟨ok, rfl⟩, hw1⟩
  subst hw1
  cases ok with
  | false =>
    go_wp2
    go_ret
    exact ⟨rfl, Below.refl _ _⟩
  | true =>
    go_wp2_with fail
    refine (fit_any none 0 [] w1 (Nat.zero_le _) (AgsAt_nil _ _)).mono ?_
    rintro e w2 ⟨⟨ok, rfl, _⟩, hw2⟩
    subst hw2
    cases ok with
    | false =>
      go_wp2
      go_ret
      exact ⟨rfl, Below.refl _ _⟩
    | true =>
      by_cases hc : c = 0
      · subst hc
        go_wp2_with fail
        refine (toAgents_nil w2).mono ?_
        rintro e w3 ⟨rfl, hb3⟩
        have Hb3 := hid hb3
        clear hb3
        go_wp2_with fail
        refine (places_n none 0 0 [] k _ rfl (by omega) (fun i hi => by omega) (AgsAt_nil _ _)).mono ?_
        rintro e w4 ⟨fo1, c1, rfl, _, _, hb4⟩
        have Hb4 := hid hb4
        clear hb4
        simp only [places_nil, List.length_nil]
        go_wp2_with fail
        refine (places_n none 0 0 [] k _ rfl (by omega) (fun i hi => by omega) (AgsAt_nil _ _)).mono ?_
        rintro e w5 ⟨fo2, c2, rfl, _, _, hb5⟩
        have Hb5 := hid hb5
        clear hb5
        simp only [places_nil, List.length_nil]
        go_wp2_with fail
        refine (places_n none 0 0 [] k _ rfl (by omega) (fun i hi => by omega) (AgsAt_nil _ _)).mono ?_
        rintro e w6 ⟨fo3, c3, rfl, _, _, hb6⟩
        have Hb6 := hid hb6
        clear hb6
        simp only [places_nil, List.length_nil]
        go_wp2_with fail
        refine (join_any fo2 fo3 c2 c3 [] [] w6 (by simp) (by simp) (PlsAt_nil _ _) (PlsAt_nil _ _)).mono ?_
        rintro e w7 ⟨v7, rfl, hown7, hb7⟩
        obtain ⟨fo7, c7, rfl, _⟩ := OwnPl_form hown7
        have Hb7 := hid hb7
        clear hb7 hown7
        simp only [show joinL [] [] = [] from rfl, List.length_nil]
        go_wp2_with fail
        refine (same_true fo1 fo7 c1 c7 [] w7 (by simp) (PlsAt_nil _ _) (PlsAt_nil _ _)).mono ?_
        rintro e w8 ⟨rfl, hb8⟩
        have HB8 : Hid (Below w2.heap.size w2 w8) := by
          have h3 := Hb3.out
          have h4 := h3.trans (Hb4.out.mono h3.size)
          have h5 := h4.trans (Hb5.out.mono h4.size)
          have h6 := h5.trans (Hb6.out.mono h5.size)
          have h7 := h6.trans (Hb7.out.mono h6.size)
          exact h7.trans (hb8.mono h7.size)
        clear hb8 Hb3 Hb4 Hb5 Hb6 Hb7
        go_wp2
        refine wp_loop_rounds 1 ?_
        rw [rounds_succ]
        go_wp2
        go_ret
        exact ⟨rfl, HB8.out⟩
      · by_cases hneg : c < 0
        · go_wp2
          go_ret
          exact ⟨rfl, Below.refl _ _⟩
        · have hgt : (0 : Int) < c := by omega
          go_wp2
          go_ret
          exact ⟨rfl, Below.refl _ _⟩
end Go.Proofs.Qxb6628733a
