import Derived.Test.Qxb6628733aCutWalk
namespace Go.Proofs.Qxb6628733a
open Go.RowKit

/-- The cells xs are those of the agents M, their files as w0 has them. -/
def RowIs (w0 : World) (xs : List Value) (M : List Ag) : Prop :=
  xs.length = M.length * 3 ∧ ∀ i, i < M.length → xs[i * 3]? = some (.string (M.getD i noAg).nm) ∧ xs[i * 3 + 1]? = some (.string (M.getD i noAg).fd) ∧
    ∃ fo fc, xs[i * 3 + 2]? = some (.slice fo (M.getD i noAg).fl.length fc) ∧ PlsAt w0 fo (M.getD i noAg).fl ∧ (fo = none → (M.getD i noAg).fl = [])
theorem RowIs_nil (w0 : World) : RowIs w0 [] [] := ⟨rfl, fun i h => by simp at h⟩
theorem RowIs_snoc {w0 : World} {xs : List Value} {M : List Ag} {a : Ag} {fo : Option Addr} {fc : Nat} (h : RowIs w0 xs M) (hp : PlsAt w0 fo a.fl) (hn : fo = none → a.fl = []) :
    RowIs w0 (xs ++ [.string a.nm, .string a.fd, .slice fo a.fl.length fc]) (M ++ [a]) := by
  obtain ⟨hl, hc⟩ := h
  refine ⟨by simp [hl]; omega, fun i hi => ?_⟩
  by_cases h : i < M.length
  · have e : (M ++ [a]).getD i noAg = M.getD i noAg := by simp [List.getD, List.getElem?_append_left h]
    rw [e, List.getElem?_append_left (by omega), List.getElem?_append_left (by omega)]
    obtain ⟨h1, h2, fo', fc', h3, h4⟩ := hc i h
    exact ⟨h1, h2, fo', fc', by rw [List.getElem?_append_left (by omega)]; exact h3, h4⟩
  · obtain rfl : i = M.length := by simp at hi; omega
    have e : (M ++ [a]).getD M.length noAg = a := by simp [List.getD]
    rw [e]
    refine ⟨?_, ?_, fo, fc, ?_, hp, hn⟩
    · rw [List.getElem?_append_right (by omega), show M.length * 3 - xs.length = 0 by omega]; rfl
    · rw [List.getElem?_append_right (by omega), show M.length * 3 + 1 - xs.length = 1 by omega]; rfl
    · rw [List.getElem?_append_right (by omega), show M.length * 3 + 2 - xs.length = 2 by omega]; rfl
theorem RowIs_done {w0 w : World} {B g n cap : Nat} {xs : List Value} {M : List Ag} (h : RowIs w0 xs M) (hn : M.length = n) (hown : w.ownsRow B 41 3 (.slice (some ⟨g, 0, none⟩) n cap) n xs) (hb : Below w0.heap.size w0 w) : AgsAt w (some ⟨g, 0, none⟩) M := fun _ =>
  ⟨g, 0, rfl, fun i hi => by
    obtain ⟨h1, h2, fo, fc, h3, h4, h5⟩ := h.2 i hi
    refine ⟨?_, ?_, fo, fc, ?_, PlsAt_later h4 hb, h5⟩
    · rw [Nat.zero_add, hown.cellAt _ (by omega)]; exact h1
    · rw [Nat.zero_add, hown.cellAt _ (by omega)]; exact h2
    · rw [Nat.zero_add, hown.cellAt _ (by omega)]; exact h3⟩

theorem ag_read {w4 wr : World} {g : Nat} {As : List Ag} (h : AgsAt w4 (some ⟨g, 0, none⟩) As) (hb : Below w4.heap.size w4 wr) (j : Nat) (hj : j < As.length) :
    ∃ fo fc, wr.cell? ⟨g, j * 3, none⟩ = some (.string (As.getD j noAg).nm) ∧ wr.cell? ⟨g, j * 3 + 1, none⟩ = some (.string (As.getD j noAg).fd) ∧ wr.cell? ⟨g, j * 3 + 2, none⟩ = some (.slice fo (As.getD j noAg).fl.length fc) ∧
      PlsAt w4 fo (As.getD j noAg).fl ∧ (fo = none → (As.getD j noAg).fl = []) := by
  obtain ⟨bb, oo, hbo, hcA⟩ := h (by omega)
  cases hbo
  obtain ⟨x0, x1, fo, fc, x2, hxp, hxn⟩ := hcA j hj
  have hgb := World.block_lt_of_cell? _ _ x0
  rw [Nat.zero_add] at x0 x1 x2
  exact ⟨fo, fc, by rw [hb.cell (by exact hgb)]; exact x0, by rw [hb.cell (by exact hgb)]; exact x1, by rw [hb.cell (by exact hgb)]; exact x2, hxp, hxn⟩

theorem dup_early (ao : Option Addr) (n cap : Nat) (As : List Ag) (k s p : Int) (w : World) (hl : As.length = n) (hm : n ≤ maxLen) (hA : AgsAt w ao As) (hbad : s < 0 ∨ p ≤ s ∨ (n : Int) < p) :
    Calls Try.prog 4 #[.slice ao n cap, .int .i64 k, .int .i64 s, .int .i64 p] w fun e w' => e = .returned (.bool true) ∧ Below w.heap.size w w' := by
  subst hl
  have Hbad := hid hbad
  clear hbad
  go_enter Try.func4, Try.ntmps4
  go_wp2_with fail
  refine (zz12_any ao cap As k s p w hm hA).mono ?_
  rintro e w1 ⟨⟨ok, rfl⟩, hw1⟩
  subst hw1
  cases ok with
  | false =>
    go_wp2
    go_ret
    exact ⟨rfl, Below.refl _ _⟩
  | true =>
    go_wp2_with fail
    refine (fit_any ao cap As w1 hm hA).mono ?_
    rintro e w2 ⟨⟨ok, rfl, _⟩, hw2⟩
    subst hw2
    cases ok with
    | false =>
      go_wp2
      go_ret
      exact ⟨rfl, Below.refl _ _⟩
    | true =>
      clear hA
      by_cases h1 : s < 0
      · go_wp2
        go_ret
        exact ⟨rfl, Below.refl _ _⟩
      · by_cases h2 : p ≤ s
        · go_wp2
          go_ret
          exact ⟨rfl, Below.refl _ _⟩
        · have h3 : (As.length : Int) < p := by have := Hbad.out; omega
          go_wp2
          go_ret
          exact ⟨rfl, Below.refl _ _⟩

set_option maxRecDepth 100000 in
set_option maxHeartbeats 1000000 in
theorem dup_row (ad : Addr) (cap : Nat) (As : List Ag) (k : Int) (S P : Nat) (w : World) (hm : As.length ≤ maxLen) (hSP : S < P) (hPn : P ≤ As.length) (hA : AgsAt w (some ad) As) :
    Calls Try.prog 4 #[.slice (some ad) As.length cap, .int .i64 k, .int .i64 (S : Int), .int .i64 (P : Int)] w fun e w' => e = .returned (.bool true) ∧ Below w.heap.size w w' := by
  obtain ⟨i0, hi, hz0, hz1, hz2⟩ := info_parts info41
  have HA := hid hA
  have Hm := hid hm
  clear hA hm
  go_enter Try.func4, Try.ntmps4
  go_wp2_with fail
  refine (zz12_any (some ad) cap As k S P w Hm.out HA.out).mono ?_
  rintro e w1 ⟨⟨ok, rfl⟩, hw1⟩
  subst hw1
  cases ok with
  | false =>
    go_wp2
    go_ret
    exact ⟨rfl, Below.refl _ _⟩
  | true =>
    go_wp2_with fail
    refine (fit_any (some ad) cap As w1 Hm.out HA.out).mono ?_
    rintro e w2 ⟨⟨ok, rfl, hok⟩, hw2⟩
    subst hw2
    cases ok with
    | false =>
      clear hok
      go_wp2
      go_ret
      exact ⟨rfl, Below.refl _ _⟩
    | true =>
      obtain ⟨hn, hfl⟩ := hok rfl
      have Hfl := hid hfl
      clear hfl hok
      go_wp2_with fail
      refine (toAgents_row ad cap As w2 (by omega) (fun i hi => by have := Hfl.out i hi; omega) HA.out).mono ?_
      rintro e w3 ⟨g, rfl, hg3, hA3, hb3⟩
      have Hb3 := hid hb3
      have HA3 := hid hA3
      clear hb3 hA3
      go_wp2_with fail
      refine (places_n _ _ _ As k _ rfl (by omega) (fun i hi => by have := Hfl.out i hi; omega) HA3.out).mono ?_
      rintro e w4 ⟨fo1, c1, rfl, hp1, hg1, hb4⟩
      have Hp1 := hid hp1
      have HA4 := hid (AgsAt_later HA3.out hb4)
      have HB4 := hid (Hb3.out.trans (hb4.mono Hb3.out.size))
      have hsz4 := HB4.out.size
      clear hp1 hb4 hg1 HA3 Hb3
      go_wp2_with (at_make; refine wpList_make_own _ rfl _ _ 25 rfl w4.heap.size 41 i0 _ 3 Try.underlying25 hi hz0 hz1 _ _ _ (As.length + 1) rfl rfl (by omega) (by rw [hz2]; omega) (by unfold maxLen; omega) (by simp) ?_; intro w5 hown5 hgrow5)
      have hb5 : Below w4.heap.size w4 w5 := (Below.refl _ _).grown hgrow5 (Nat.le_refl _) (by simp)
      clear hgrow5
      go_loopw [12, 13] (fun v c wr => ∃ (j : Nat) (xs : List Value), j ≤ P ∧ c = .int .i64 j ∧ v = .slice (some ⟨w4.heap.size, 0, none⟩) j (As.length + 1) ∧ wr.ownsRow w4.heap.size 41 3 v j xs ∧ RowIs w4 xs (As.take j) ∧ Below w4.heap.size w4 wr) (fun _ c _ => P - (intOf c).toNat)
      case atStart => exact ⟨0, [], Nat.zero_le _, rfl, rfl, hown5, RowIs_nil _, hb5⟩
      case round =>
        obtain ⟨j, xs, hj, rfl, rfl, hown, hrow, hbel⟩ := hrel
        clear hown5 hb5
        have hgw : w4.heap.size < wr.heap.size := (hown.lt _ rfl).2
        have Ho := hid hown
        have Hr := hid hrow
        have Hb := hid hbel
        by_cases hlt : j < P
        · obtain ⟨fo, fc, y0, y1, y2, hxp, hxn⟩ := ag_read HA4.out hbel j (by omega)
          have Ht := hid (take_snoc' As noAg j (by omega))
          have Hr2 := hid (RowIs_snoc (fc := fc) hrow hxp hxn)
          clear hxp hxn hown hrow hbel
          rw [← Ht.out] at Hr2
          generalize As.getD j noAg = a at *
          go_wp2_with (at_builtin; refine wpList_append_fits _ rfl (.tmp 53) (.tmp 58) 25 rfl w4.heap.size 41 i0 3 Try.underlying25 hi hz1 w4.heap.size j (As.length + 1) _ rfl (Ho.out.alloc _) ⟨wr.heap.size, 0, none⟩ 1 1 [.string a.nm, .string a.fd, .slice fo a.fl.length fc] rfl rfl (cell_three_new _ _ _ _ _) (by intro u hu; simp at hu; rcases hu with rfl | rfl | rfl <;> rfl) (by omega) ?_; intro w6 hown6 hgrow6)
          have Ho6 := hid hown6
          have Hb6 : Hid (Below w4.heap.size w4 w6) := (Hb.out.alloc (by omega) _).grown hgrow6 (by simp; omega) (by intro q hq; cases hq; exact Nat.le_refl _)
          clear hown6 hgrow6
          go_wp2
          go_roundw
          case rel => exact ⟨j + 1, _, by omega, by go_num, rfl, Ho6.out, Hr2.out, Hb6.out⟩
          case measure => simp [intOf]; omega
        · obtain rfl : j = P := by omega
          obtain ⟨fo, fc, y0, y1, y2, hxp, hxn⟩ := ag_read HA4.out hbel S (by omega)
          have Hr2 := hid (RowIs_snoc (fc := fc) hrow hxp hxn)
          have Hmem : Hid (As.getD S noAg ∈ As.take j) := by
            have e : As.getD S noAg = (As.take j)[S]'(by simp; omega) := by simp [List.getD, show S < As.length by omega]
            rw [e]; exact List.getElem_mem _
          clear hxp hxn hown hrow hbel
          generalize As.getD S noAg = a at *
          go_wp2_with (at_builtin; refine wpList_append_fits _ rfl (.tmp 60) (.tmp 65) 25 rfl w4.heap.size 41 i0 3 Try.underlying25 hi hz1 w4.heap.size j (As.length + 1) _ rfl (Ho.out.alloc _) ⟨wr.heap.size, 0, none⟩ 1 1 [.string a.nm, .string a.fd, .slice fo a.fl.length fc] rfl rfl (cell_three_new _ _ _ _ _) (by intro u hu; simp at hu; rcases hu with rfl | rfl | rfl <;> rfl) (by omega) ?_; intro w6 hown6 hgrow6)
          have hgw6 : w4.heap.size < w6.heap.size := (hown6.lt _ rfl).2
          have Hb6 : Hid (Below w4.heap.size w4 w6) := (Hb.out.alloc (by omega) _).grown hgrow6 (by simp; omega) (by intro q hq; cases hq; exact Nat.le_refl _)
          have Ho6 := hid hown6
          clear hown6 hgrow6 Ho Hb Hr
          go_wp2
          go_loopw [12, 14] (fun v c wr => ∃ (i : Nat) (xs : List Value), j ≤ i ∧ i ≤ As.length ∧ c = .int .i64 i ∧ v = .slice (some ⟨w4.heap.size, 0, none⟩) (i + 1) (As.length + 1) ∧ wr.ownsRow w4.heap.size 41 3 v (i + 1) xs ∧ RowIs w4 xs (As.take j ++ [a] ++ (As.drop j).take (i - j)) ∧ Below w4.heap.size w4 wr) (fun _ c _ => As.length - (intOf c).toNat)
          case atStart => exact ⟨j, _, Nat.le_refl _, hPn, rfl, rfl, Ho6.out, by rw [Nat.sub_self, List.take_zero, List.append_nil]; exact Hr2.out, Hb6.out⟩
          case round =>
            obtain ⟨i, xs2, hji, hin, rfl, rfl, hown, hrow, hbel⟩ := hrel
            have hgw2 : w4.heap.size < wr.heap.size := (hown.lt _ rfl).2
            have Ho := hid hown
            have Hb := hid hbel
            clear Ho6 Hb6 Hr2
            by_cases hlt2 : i < As.length
            · obtain ⟨fo, fc, y0, y1, y2, hxp, hxn⟩ := ag_read HA4.out hbel i hlt2
              have Ht : Hid (As.take j ++ [a] ++ (As.drop j).take (i + 1 - j) = As.take j ++ [a] ++ (As.drop j).take (i - j) ++ [As.getD i noAg]) := by
                show _ = _
                rw [show i + 1 - j = (i - j) + 1 by omega, take_snoc' (As.drop j) noAg (i - j) (by simp; omega), ← List.append_assoc]
                congr 2
                simp [List.getD, List.getElem?_drop, show j + (i - j) = i by omega]
              have Hr2 := hid (RowIs_snoc (fc := fc) hrow hxp hxn)
              rw [← Ht.out] at Hr2
              clear hxp hxn hown hrow hbel Ht
              generalize hAi : As.getD i noAg = a2 at *
              clear hAi
              go_wp2_with (at_builtin; refine wpList_append_fits _ rfl (.tmp 74) (.tmp 79) 25 rfl w4.heap.size 41 i0 3 Try.underlying25 hi hz1 w4.heap.size (i + 1) (As.length + 1) _ rfl (Ho.out.alloc _) ⟨wr.heap.size, 0, none⟩ 1 1 [.string a2.nm, .string a2.fd, .slice fo a2.fl.length fc] rfl rfl (cell_three_new _ _ _ _ _) (by intro u hu; simp at hu; rcases hu with rfl | rfl | rfl <;> rfl) (by omega) ?_; intro w6 hown6 hgrow6)
              have Hb7 : Hid (Below w4.heap.size w4 w6) := (Hb.out.alloc (by omega) _).grown hgrow6 (by simp; omega) (by intro q hq; cases hq; exact Nat.le_refl _)
              have Ho7 := hid hown6
              clear hown6 hgrow6
              go_wp2
              go_roundw
              case rel => exact ⟨i + 1, _, by omega, by omega, by go_num, rfl, Ho7.out, Hr2.out, Hb7.out⟩
              case measure => simp [intOf]; omega
            · obtain rfl : i = As.length := by omega
              rw [List.take_of_length_le (show (As.drop j).length ≤ As.length - j by simp)] at hrow
              have hM := RowIs_done hrow (by simp; omega) hown hbel
              have hpd := places_dup (As.take j) (As.drop j) a k Hmem.out
              rw [List.take_append_drop] at hpd
              have HM := hid hM
              have Hpd := hid hpd
              have Hp9 := hid (PlsAt_later Hp1.out hbel)
              have HB9 := hid (HB4.out.trans (hbel.mono hsz4))
              have hmem : ∀ b ∈ As.take j ++ [a] ++ As.drop j, b ∈ As := fun b hb => by
                rcases List.mem_append.1 hb with h | h
                · rcases List.mem_append.1 h with h | h
                  · exact List.mem_of_mem_take h
                  · rw [List.mem_singleton.1 h]; exact List.mem_of_mem_take Hmem.out
                · exact List.mem_of_mem_drop h
              have hflM := fl_sub Hfl.out hmem
              have hMl : (As.take j ++ [a] ++ As.drop j).length = As.length + 1 := by simp; omega
              have HflM := hid hflM
              have HMl := hid hMl
              clear hM hpd hown hrow hbel Ho Hb hmem hflM hMl Hmem Hp1
              generalize As.take j ++ [a] ++ As.drop j = M at *
              go_wp2_with fail
              refine (places_n _ _ (As.length + 1) M k _ HMl.out (by omega) (fun i hi => HflM.out i (by rw [HMl.out]; exact hi)) HM.out).mono ?_
              rintro e w10 ⟨fo2, c2, rfl, hp2, _, hb10⟩
              rw [Hpd.out] at hp2 ⊢
              have Hp2 := hid hp2
              have Hp10 := hid (PlsAt_later Hp9.out hb10)
              have HB10 := hid (HB9.out.trans (hb10.mono HB9.out.size))
              clear hp2 hb10
              have hpl := places_length As k
              go_wp2_with fail
              refine (same_true fo1 fo2 c1 c2 (places As k) w10 (by omega) Hp10.out Hp2.out).mono ?_
              rintro e w11 ⟨rfl, hb11⟩
              have HB11 := hid (HB10.out.trans (hb11.mono HB10.out.size))
              clear hb11
              go_wp2_with fail
              refine (distinct_any (some ad) cap As k w11 hn Hfl.out (AgsAt_later HA.out HB11.out)).mono ?_
              rintro e w12 ⟨rfl, hb12⟩
              have HB12 := hid (HB11.out.trans (hb12.mono HB11.out.size))
              clear hb12
              go_wp2
              go_ret
              exact ⟨by simp, HB12.out⟩
end Go.Proofs.Qxb6628733a
