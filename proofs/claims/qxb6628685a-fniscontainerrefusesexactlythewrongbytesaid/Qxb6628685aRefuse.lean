import Derived.Test.Qxb6628685aAccept
namespace Go.Proofs.Qxb6628685a
open Go.RowKit

theorem zz8_yes (p : Array Value) (a b c : Int) (ao : Option Addr) (n tcap : Nat) (k x : Int) (w : World) (hn : n ≤ 1048576) :
    Calls Try.prog 8 #[.agg p, .int .u32 a, .int .u32 b, .int .u32 c, .slice ao n tcap, .int .i64 k, .int .u8 x] w fun e w' => e = .returned (.bool true) ∧ Below w.heap.size w w' := by
  go_enter Try.func8, Try.ntmps8
  go_wp2
  go_ret
  exact ⟨rfl, (Below.refl _ _).alloc (Nat.le_refl _) _⟩
theorem zz8_no (p : Array Value) (a b c : Int) (ao : Option Addr) (n tcap : Nat) (k x : Int) (w : World) (hn : 1048576 < n) :
    Calls Try.prog 8 #[.agg p, .int .u32 a, .int .u32 b, .int .u32 c, .slice ao n tcap, .int .i64 k, .int .u8 x] w fun e w' => e = .returned (.bool false) ∧ Below w.heap.size w w' := by
  go_enter Try.func8, Try.ntmps8
  go_wp2
  go_ret
  exact ⟨rfl, (Below.refl _ _).alloc (Nat.le_refl _) _⟩

set_option maxHeartbeats 400000 in
theorem ref_over (pre : List Nat) (doc data next : Int) (ao : Option Addr) (n tcap : Nat) (k x : Int) (w : World) (hp : pre.length = 16) (hn : 1048576 < n) :
    Calls Try.prog 4 #[.agg (Cells8 pre).toArray, .int .u32 doc, .int .u32 data, .int .u32 next, .slice ao n tcap, .int .i64 k, .int .u8 x] w fun e w' =>
      e = .returned (.bool true) ∧ Below w.heap.size w w' := by
  have hi22 : (Try.prog.info? 22).map (·.size) = some (Cells8 pre).toArray.size := by rw [info22]; simp [Cells8_length, hp]
  have Hi := hid hi22
  clear hi22
  go_enter Try.func4, Try.ntmps4
  go_wp2_with (refine wpList_load_row rfl 22 (.tmp 7) rfl w.heap.size rfl 22 (Cells8 pre).toArray (0, 0) _ (heap_alloc_new w _) Try.underlying22 rfl Hi.out ?_)
  refine (zz8_no _ _ _ _ _ _ _ _ _ _ hn).mono ?_
  rintro e w1 ⟨rfl, hb1⟩
  have HB := hid hb1
  clear hb1
  go_wp2
  go_ret
  exact ⟨rfl, ((Below.refl _ _).alloc (Nat.le_refl _) _).trans (HB.out.mono (by simp))⟩

/-- The copy after j rounds. -/
def half (H : List Nat) (n j : Nat) : List Nat := H.take j ++ List.replicate (n - j) 0
theorem half_zero (H : List Nat) (n : Nat) : half H n 0 = List.replicate n 0 := by simp [half]
theorem half_length (H : List Nat) (n j : Nat) (hn : H.length = n) (hj : j ≤ n) : (half H n j).length = n := by simp [half]; omega
theorem half_all (H : List Nat) (n : Nat) (hn : H.length = n) : half H n n = H := by simp [half, List.take_of_length_le (Nat.le_of_eq hn)]
theorem half_step (H : List Nat) (n j : Nat) (hn : H.length = n) (hj : j < n) : (half H n j).set j (H.getD j 0) = half H n (j + 1) := by
  apply List.ext_getElem?
  intro i
  unfold half
  have hl : (H.take j).length = j := by simp; omega
  rcases Nat.lt_trichotomy i j with h | h | h
  · rw [List.getElem?_set_ne (by omega), List.getElem?_append_left (by omega), List.getElem?_append_left (by simp; omega)]
    simp [h, show i < j + 1 by omega]
  · subst h
    rw [List.getElem?_set_self (by simp; omega), List.getElem?_append_left (by simp; omega)]
    simp [List.getD, show i < H.length by omega]
  · rw [List.getElem?_set_ne (by omega), List.getElem?_append_right (by omega), List.getElem?_append_right (by simp; omega)]
    simp only [List.getElem?_replicate, List.length_take]
    congr 1
    simp; omega

set_option maxHeartbeats 1000000 in
theorem ref_main (pre : List Nat) (doc data next : Nat) (ao : Option Addr) (tcap : Nat) (T : List Nat) (k : Int) (c : Nat) (w : World) (hp : pre.length = 16) (hp8 : ∀ i, pre.getD i 0 < 256) (hT8 : ∀ i, T.getD i 0 < 256) (hdoc : doc < 4294967296) (hdata : data < 4294967296) (hnext : next < 4294967296)
    (hc : c < 256) (hT : T.length ≤ 1048576) (hsrc : SrcT w ao T) :
    Calls Try.prog 4 #[.agg (Cells8 pre).toArray, .int .u32 (doc : Int), .int .u32 (data : Int), .int .u32 (next : Int), .slice ao T.length tcap, .int .i64 k, .int .u8 (c : Int)] w fun e w' =>
      e = .returned (.bool true) ∧ Below w.heap.size w w' := by
  obtain ⟨i0, hi, hz0, hz1, hz2⟩ := info_parts info5
  have hi22 : (Try.prog.info? 22).map (·.size) = some (Cells8 pre).toArray.size := by rw [info22]; simp [Cells8_length, hp]
  have Hi := hid hi22
  have Hsrc := hid hsrc
  clear hi22 hsrc
  go_enter Try.func4, Try.ntmps4
  go_wp2_with (refine wpList_load_row rfl 22 (.tmp 7) rfl w.heap.size rfl 22 (Cells8 pre).toArray (0, 0) _ (heap_alloc_new w _) Try.underlying22 rfl Hi.out ?_)
  refine (zz8_yes _ _ _ _ _ _ _ _ _ _ hT).mono ?_
  rintro e w1 ⟨rfl, hb1⟩
  have HX := hid (box_later hb1)
  have HB : Hid (Below w.heap.size w w1) := ((Below.refl _ _).alloc (Nat.le_refl _) _).trans (hb1.mono (by simp))
  clear hb1
  go_wp2_with (refine wpList_load_row rfl 22 (.tmp 7) rfl w.heap.size rfl 22 (Cells8 pre).toArray (0, 0) _ HX.out Try.underlying22 rfl Hi.out ?_)
  refine (build_any pre doc data next ao tcap T _ hp hdoc hdata hnext hT (SrcT_later Hsrc.out HB.out)).mono ?_
  rintro e w2 ⟨g, n, rfl, hn, hown, hb2⟩
  have hcont := headL_cont pre doc data next T hp
  have hlen := headL_length pre doc data next T hp
  have hH8 : ∀ i, (headL pre doc data next T).getD i 0 < 256 := headL_lt _ _ _ _ _ hp8 hT8
  have hcells : ∀ i, i < n → w2.cell? ⟨g, i, none⟩ = some (.int .u8 (((headL pre doc data next T).getD i 0 : Nat) : Int)) := fun i hi => by
    rw [hown.cellAt i (by omega)]; exact Cells8_get _ i (by omega)
  have hgw : g < w2.heap.size := (hown.lt g rfl).2
  have HB2 : Hid (Below w.heap.size w w2) := HB.out.trans (hb2.mono HB.out.size)
  have hw2 := HB2.out.size
  generalize headL pre doc data next T = H at *
  have Hcont := hid hcont
  have HH8 := hid hH8
  have Hcells := hid hcells
  have Hlen : Hid (H.length = n) := by rw [hlen]; exact hn.symm
  have hn' : n ≤ 2000000 := by omega
  clear hcont hlen hH8 hcells hown hb2 hn HX Hi Hsrc HB
  by_cases hk : 0 ≤ k ∧ k < n
  · obtain ⟨hk0, hkn⟩ := hk
    obtain ⟨P, rfl⟩ := Int.eq_ofNat_of_zero_le hk0
    have hPn : P < n := by omega
    go_wp2_with (at_make; refine wpList_make_full _ rfl _ _ 24 rfl w2.heap.size 5 i0 (.int .u8 0) 1 Try.underlying24 hi hz0 hz1 _ _ _ _ n rfl rfl (by omega) (by omega) (by rw [hz2]; omega) (by unfold maxLen; omega) (by simp) ?_; intro w3 hown3 hgrow3)
    rw [Cells8_zero] at hown3
    have hb3 : Below w2.heap.size w2 w3 := (Below.refl _ _).grown hgrow3 (Nat.le_refl _) (by simp)
    clear hgrow3
    go_loopw [17] (fun i wr => ∃ j : Nat, j ≤ n ∧ i = .int .i64 j ∧ OwnsB wr w2.heap.size w2.heap.size n n (half H n j) ∧ Below w2.heap.size w2 wr) (fun i _ => n - (intOf i).toNat)
    case atStart => exact ⟨0, Nat.zero_le _, rfl, by rw [half_zero]; exact hown3, hb3⟩
    case round =>
      obtain ⟨j, hj, rfl, hownr, hbel⟩ := hrel
      clear hown3 hb3
      by_cases hlt : j < n
      · have c1 : wr.cell? ⟨g, j, none⟩ = some (.int .u8 ((H.getD j 0 : Nat) : Int)) := by rw [hbel.cell (by exact hgw)]; exact Hcells.out j hlt
        have c2 : wr.cell? ⟨w2.heap.size, j, none⟩ = some (.int .u8 (((half H n j).getD j 0 : Nat) : Int)) := by
          rw [hownr.cellAt j (by omega)]; exact Cells8_get _ j (by rw [half_length H n j Hlen.out hj]; exact hlt)
        have f2 := hownr.frozenAt j
        have H3 : Hid (OwnsB (wr.setCell ⟨w2.heap.size, j, none⟩ (.int .u8 ((H.getD j 0 : Nat) : Int))) w2.heap.size w2.heap.size n n (half H n (j + 1))) := by
          show OwnsB _ _ _ _ _ _
          rw [← half_step H n j Hlen.out hlt]
          have h := (hownr.stored j (.int .u8 ((H.getD j 0 : Nat) : Int))).1
          rw [Cells8_set] at h; exact h
        have H4 := hid hbel
        clear hownr hbel
        generalize H.getD j 0 = x at *
        generalize (half H n j).getD j 0 = y at *
        go_wp2
        go_roundw
        case rel => exact ⟨j + 1, by omega, by go_num, H3.out, H4.out.setCell (Nat.le_refl _) _⟩
        case measure => simp [intOf]; omega
      · obtain rfl : j = n := by omega
        rw [half_all H j Hlen.out] at hownr
        have c2 : wr.cell? ⟨w2.heap.size, P, none⟩ = some (.int .u8 ((H.getD P 0 : Nat) : Int)) := by
          rw [hownr.cellAt P (by omega)]; exact Cells8_get _ P (by rw [Hlen.out]; exact hPn)
        have f2 := hownr.frozenAt P
        have H3 : Hid (OwnsB (wr.setCell ⟨w2.heap.size, P, none⟩ (.int .u8 (c : Int))) w2.heap.size w2.heap.size j j (H.set P c)) := by
          have h := (hownr.stored P (.int .u8 (c : Int))).1
          rw [Cells8_set] at h; exact h
        have H4 : Hid (Below w2.heap.size w2 (wr.setCell ⟨w2.heap.size, P, none⟩ (.int .u8 (c : Int)))) := hbel.setCell (Nat.le_refl _) _
        clear hownr hbel
        generalize H.getD P 0 = y at *
        go_wp2_with fail
        generalize wr.setCell ⟨w2.heap.size, P, none⟩ (.int .u8 (c : Int)) = w4 at *
        clear c2 f2
        refine (allowedAt_any P c w4 (by omega) hc).mono ?_
        rintro e w5 ⟨rfl, hw5⟩
        subst hw5
        have HA : Hid (isCont (H.set P c) = allowed P c) := set_cont H Hcont.out P c (by rw [Hlen.out]; exact hPn)
        generalize allowed P c = ok at *
        go_wp2_with fail
        refine (isContainer_any g j j H _ Hlen.out (Nat.le_refl _) (by omega) HH8.out (fun i hi => by rw [H4.out.cell (by exact hgw)]; exact Hcells.out i hi)).mono ?_
        rintro e w6 ⟨rfl, hb6⟩
        rw [Hcont.out]
        have HB6 := hid hb6
        clear hb6
        go_wp2_with fail
        have hset : ∀ i, (H.set P c).getD i 0 < 256 := fun i => by
          by_cases hiP : i = P
          · subst hiP
            have e : (H.set i c).getD i 0 = c := by simp [List.getD, show i < H.length by rw [Hlen.out]; exact hPn]
            rw [e]; exact hc
          · have e : (H.set P c).getD i 0 = H.getD i 0 := by simp [List.getD, Ne.symm hiP]
            rw [e]; exact HH8.out i
        have hcs : ∀ i, i < j → w6.cell? ⟨w2.heap.size, i, none⟩ = some (.int .u8 (((H.set P c).getD i 0 : Nat) : Int)) := fun i hi => by
          have h := H3.out.cellAt i (by omega)
          rw [Cells8_get _ i (by rw [List.length_set, Hlen.out]; exact hi)] at h
          rw [HB6.out.cell (World.block_lt_of_cell? _ _ h)]; exact h
        refine (isContainer_any w2.heap.size j j (H.set P c) _ (by rw [List.length_set]; exact Hlen.out) (Nat.le_refl _) (by omega) hset hcs).mono ?_
        rintro e w7 ⟨rfl, hb7⟩
        rw [HA.out]
        have HB7 : Hid (Below w.heap.size w w7) := by
          have h4 := HB2.out.trans (H4.out.mono hw2)
          have h6 := h4.trans (HB6.out.mono h4.size)
          exact h6.trans (hb7.mono h6.size)
        clear hb7 hset hcs
        go_wp2
        go_ret
        exact ⟨rfl, HB7.out⟩
  · by_cases hk0 : k < 0
    · clear hk
      go_wp2
      go_ret
      exact ⟨rfl, HB2.out⟩
    · have hkn : (n : Int) ≤ k := by omega
      clear hk
      go_wp2
      go_ret
      exact ⟨rfl, HB2.out⟩
end Go.Proofs.Qxb6628685a
