import Derived.Test.Qxb6628651aPack
import Derived.Laws.CopyOwn
namespace Go.Proofs.Qxb6628651a
open Go.RowKit

theorem bit_one (x t : Nat) (hx : x < 256) : bits .and .u8 ((x : Int) / 2 ^ t) 1 = if x.testBit t then 1 else 0 := by
  have e2 : (x : Int) / 2 ^ t = ((x / 2 ^ t : Nat) : Int) := by rw [Int.natCast_ediv, Int.natCast_pow]; rfl
  rw [e2]
  have e := u8_and_nat (x / 2 ^ t) 1 (Nat.lt_of_le_of_lt (Nat.div_le_self _ _) hx) (by omega)
  have e' : bits .and .u8 ((x / 2 ^ t : Nat) : Int) 1 = ((x / 2 ^ t &&& 1 : Nat) : Int) := e
  rw [e', Nat.and_one_is_mod, Nat.testBit_eq_decide_div_mod_eq]
  rcases Nat.mod_two_eq_zero_or_one (x / 2 ^ t) with h | h <;> simp [h]

theorem want_len (n m : Nat) (h0 : n % 8 ≠ 0) (hm : m = (n * 7 + 7) / 8) : (m : Int) = 7 * (n : Int) / 8 + 1 := by
  have : n % 8 = 1 ∨ n % 8 = 2 ∨ n % 8 = 3 ∨ n % 8 = 4 ∨ n % 8 = 5 ∨ n % 8 = 6 ∨ n % 8 = 7 := by omega
  rcases this with h | h | h | h | h | h | h <;> omega

/-- A stream bit inside: octet and septet agree. -/
theorem read_in {M O : List Nat} {N j : Nat} (h : PB M N O) (hM : M.getD (j / 7) 0 < 256) (hj : j < 7 * N) :
    (bits .and .u8 (((O.getD (j / 8) 0 : Nat) : Int) / 2 ^ (j % 8)) 1 != bits .and .u8 (((M.getD (j / 7) 0 : Nat) : Int) / 2 ^ (j % 7)) 1) = false := by
  rw [bit_one _ _ (h.1 _), bit_one _ _ hM, h.2 (j / 8) (j % 8) (by omega), show 8 * (j / 8) + j % 8 = j by omega]
  simp [hj, bitAt]

/-- A stream bit behind the last septet is zero. -/
theorem read_out {M O : List Nat} {N j : Nat} (h : PB M N O) (hj : ¬ j < 7 * N) :
    (bits .and .u8 (((O.getD (j / 8) 0 : Nat) : Int) / 2 ^ (j % 8)) 1 != 0) = false := by
  rw [bit_one _ _ (h.1 _), h.2 (j / 8) (j % 8) (by omega), show 8 * (j / 8) + j % 8 = j by omega]
  simp [hj]

/-- 'copy(zzc, septets)': the new row holds what the old one holds. -/
theorem copy_row {w0 w1 : World} {B g n sCap : Nat} {L Z : List Nat} (hown : w1.ownsRow B 5 1 (.slice (some ⟨g, 0, none⟩) n n) n (Cells8 Z)) (hL : L.length = n) (ad : Addr)
    (hsrc : ∀ i, i < L.length → w1.cell? (ad.add i) = some (.int .u8 ((L.getD i 0 : Nat) : Int))) (hbel : Below B w0 w1) (hB : B ≤ g) :
    ∃ w2, (Builtin.copy_ #[22, 22] 3 #[.slice (some ⟨g, 0, none⟩) n n, .slice (some ad) n sCap]).run Try.prog w1 = .ok (.int .i64 (n : Int)) w2 ∧
      w2.ownsRow B 5 1 (.slice (some ⟨g, 0, none⟩) n n) n (Cells8 L) ∧ Below B w0 w2 := by
  obtain ⟨i0, hi, hz0, hz1, hz2⟩ := info_parts info5
  obtain ⟨hl0, ⟨hv, _⟩ | ⟨g', cp, cur, hv, hBg, hg, hnc, hcm, hcs, htk⟩⟩ := hown
  · simp at hv
  simp only [Value.slice.injEq, Option.some.injEq, Addr.mk.injEq, and_true, true_and] at hv
  obtain ⟨rfl, rfl⟩ := hv
  have hcp := run_copy_row (P := Try.prog) w1 22 22 3 5 g 0 n n ad n sCap cur 5 (Cells8 L) Try.underlying22 (by rw [hi]; simp [hz1]) hg (by rw [Cells8_length, hL]; simp)
    (fun j u hj => by
      have hjl : j < L.length := by have := (List.getElem?_eq_some_iff.1 hj).1; rwa [Cells8_length] at this
      rw [Cells8_get L j hjl] at hj
      rw [hsrc j hjl]; exact hj) (by rw [Cells8_length]; omega) (Cells8_one L)
  have hgi : goInt ((Cells8 L).length : Nat) = .int .i64 (n : Int) := by rw [Cells8_length, hL]; rfl
  rw [hgi] at hcp
  have hrow : cur.toList.take 0 ++ Cells8 L ++ cur.toList.drop (0 + (Cells8 L).length) = Cells8 L := by
    rw [List.take_zero, List.nil_append, List.drop_eq_nil_of_le (by rw [Cells8_length, Array.length_toList]; omega), List.append_nil]
  rw [hrow] at hcp
  refine ⟨_, hcp, ⟨by rw [Cells8_length]; omega, .inr ⟨g, n, _, rfl, hB, setRow_heap w1 g _ _ 5 _ hg, hnc, hcm, by simp [Cells8_length, hL], ?_⟩⟩, below_setRow hbel hB _⟩
  rw [List.take_of_length_le (by simp [Cells8_length, hL])]

set_option maxHeartbeats 400000 in
theorem bm_row7 (ad : Addr) (cap : Nat) (L : List Nat) (w : World) (hL : L.length ≤ 1048576) (hL8 : ∀ i, L.getD i 0 < 256)
    (hc0 : ∀ i, i < L.length → w.cell? (ad.add i) = some (.int .u8 ((L.getD i 0 : Nat) : Int)))
    (h7 : ((L.length : Int) % 8 == 7) = true) (h8 : (7 * ((L.length : Int) + 1) % 8 != 0) = false) :
    Calls Try.prog 3 #[.slice (some ad) L.length cap] w fun e w' => e = .returned (.bool true) ∧ Below w.heap.size w w' := by
  obtain ⟨i0, hi, hz0, hz1, hz2⟩ := info_parts info5
  have hP : Hid (padded L = L ++ [13]) := by show _ = _; rw [pad7 (by rw [beq_iff_eq] at h7; omega)]
  have hM8 : ∀ i, (padded L).getD i 0 < 256 := by rw [hP.out]; exact pad8 L hL8
  have hMl : Hid ((padded L).length = (L.length + 1)) := by rw [hP.out]; show _ = _; simp
  have HM : Hid (∀ i, i < L.length → (padded L).getD i 0 = L.getD i 0) := by rw [hP.out]; intro i hi; simp [List.getD, List.getElem?_append_left hi]
  have HM13 : Hid (∀ i, ¬ i < L.length → i < (L.length + 1) → (padded L).getD i 0 = 13) := by rw [hP.out]; intro i hi hi2; (obtain rfl : i = L.length := (by omega)); simp [List.getD]
  have h7' : L.length % 8 = 7 := by rw [beq_iff_eq] at h7; omega
  have h8' : True := trivial
  go_enter Try.func3, Try.ntmps3
  go_wp2_with (first
    | (go_at_call 5; go_in)
    | (at_make; refine wpList_make_full _ rfl _ _ 22 rfl w.heap.size 5 i0 (.int .u8 0) 1 Try.underlying22 hi hz0 hz1 _ _ _ _ L.length rfl rfl (by omega) (by omega) (by rw [hz2]; omega) (by unfold maxLen; omega) (by simp) ?_; intro w1 hown hgrow))
  rw [Cells8_zero] at hown
  have hbel1 : Below w.heap.size w w1 := (Below.refl _ _).grown hgrow (Nat.le_refl _) (by simp)
  obtain ⟨w2, hcp, hown2, hbel2⟩ := copy_row (sCap := cap) hown rfl ad (fun i hi => by rw [hbel1.cell (World.block_lt_of_cell? _ _ (hc0 i hi))]; exact hc0 i hi) hbel1 (Nat.le_refl _)
  rw [hcp]
  clear hcp hown hgrow hbel1
  have hH : Holds8 w2 (some ⟨w.heap.size, 0, none⟩) L := fun _ => ⟨_, rfl, fun i hi => by rw [hown2.cellAt i (by omega)]; exact Cells8_get L i hi⟩
  have hg2 : w.heap.size < w2.heap.size := (hown2.lt _ rfl).2
  have hcap : L.length ≤ maxLen := by unfold maxLen; omega
  clear hown2
  go_wp2_with fail
  refine (pack_any _ _ L _ (by omega) hL8 hH (Nat.le_refl _) hcap).mono ?_
  rintro e w3 ⟨g, m, O, rfl, hO, hm, hpb, hown3, hbel3⟩
  rw [hMl.out] at hm hpb
  have hm1 : (m : Int) ≤ 7 * ((L.length : Int) + 1) / 8 := by omega
  have hm2 : 7 * ((L.length : Int) + 1) / 8 ≤ (m : Int) := by omega
  have hm3 : 7 * (L.length + 1) ≤ 8 * m := by omega
  clear hm hc0
  have hS : Hid (∀ i, i < L.length → w3.cell? ⟨w.heap.size, i, none⟩ = some (.int .u8 ((L.getD i 0 : Nat) : Int))) := by
    intro i hi
    obtain ⟨b', hb', hc'⟩ := hH (by omega)
    cases hb'
    rw [hbel3.cell (by exact hg2)]; exact hc' i hi
  have HOut : Hid (∀ i, i < m → w3.cell? ⟨g, i, none⟩ = some (.int .u8 ((O.getD i 0 : Nat) : Int))) := by
    intro i hi
    rw [hown3.cellAt i (by omega)]; exact Cells8_get O i (by omega)
  have HPB := show Hid _ from hpb
  have HB : Hid (Below w.heap.size w w3) := hbel2.trans (hbel3.mono (by omega))
  clear hpb hown3 hbel3 hbel2 hH hO
  go_wp2
  go_loop [9] (fun i => ∃ j : Nat, j ≤ 8 * m ∧ i = .int .i64 j) (fun i => 8 * m - (intOf i).toNat)
  case atStart => exact ⟨0, Nat.zero_le _, rfl⟩
  case round =>
    obtain ⟨j, hj, rfl⟩ := hrel
    by_cases hlt : j < 8 * m
    · have hx := HOut.out (j / 8) (by omega)
      by_cases hb7 : j < 7 * (L.length + 1)
      · have hr := read_in HPB.out (hM8 _) hb7
        by_cases hk : j / 7 < L.length
        · have hs := hS.out (j / 7) hk
          rw [HM.out _ hk] at hr
          generalize O.getD (j / 8) 0 = x at *
          generalize L.getD (j / 7) 0 = c at *
          clear hM8 hL8
          go_wp2
          go_round
          case rel => exact ⟨j + 1, by omega, by go_num⟩
          case measure => simp [intOf]; omega
        · rw [HM13.out _ hk (by omega), show ((13 : Nat) : Int) = 13 from rfl] at hr
          generalize O.getD (j / 8) 0 = x at *
          clear hM8 hL8
          go_wp2
          go_round
          case rel => exact ⟨j + 1, by omega, by go_num⟩
          case measure => simp [intOf]; omega
      · omega
    · go_wp2
      go_ret
      exact ⟨rfl, HB.out⟩

set_option maxHeartbeats 400000 in
theorem bm_row0 (ad : Addr) (cap : Nat) (L : List Nat) (w : World) (hL : L.length ≤ 1048576) (hL8 : ∀ i, L.getD i 0 < 256)
    (hc0 : ∀ i, i < L.length → w.cell? (ad.add i) = some (.int .u8 ((L.getD i 0 : Nat) : Int)))
    (h7 : ((L.length : Int) % 8 == 7) = false) (h8 : (7 * (L.length : Int) % 8 != 0) = false) :
    Calls Try.prog 3 #[.slice (some ad) L.length cap] w fun e w' => e = .returned (.bool true) ∧ Below w.heap.size w w' := by
  obtain ⟨i0, hi, hz0, hz1, hz2⟩ := info_parts info5
  have hP : Hid (padded L = L) := by show _ = _; rw [pad_no (by rw [beq_eq_false_iff_ne] at h7; omega)]
  have hM8 : ∀ i, (padded L).getD i 0 < 256 := by rw [hP.out]; exact hL8
  have hMl : Hid ((padded L).length = L.length) := by rw [hP.out]; show _ = _; simp
  have HM : Hid (∀ i, i < L.length → (padded L).getD i 0 = L.getD i 0) := by rw [hP.out]; intro i hi; simp [List.getD]
  have HM13 : Hid (∀ i, ¬ i < L.length → i < L.length → (padded L).getD i 0 = 13) := by rw [hP.out]; intro i hi hi2; omega
  have h7' : L.length % 8 ≠ 7 := by rw [beq_eq_false_iff_ne] at h7; omega
  have h8' : L.length % 8 = 0 := by rw [bne_eq_false_iff_eq] at h8; omega
  go_enter Try.func3, Try.ntmps3
  go_wp2_with (first
    | (go_at_call 5; go_in)
    | (at_make; refine wpList_make_full _ rfl _ _ 22 rfl w.heap.size 5 i0 (.int .u8 0) 1 Try.underlying22 hi hz0 hz1 _ _ _ _ L.length rfl rfl (by omega) (by omega) (by rw [hz2]; omega) (by unfold maxLen; omega) (by simp) ?_; intro w1 hown hgrow))
  rw [Cells8_zero] at hown
  have hbel1 : Below w.heap.size w w1 := (Below.refl _ _).grown hgrow (Nat.le_refl _) (by simp)
  obtain ⟨w2, hcp, hown2, hbel2⟩ := copy_row (sCap := cap) hown rfl ad (fun i hi => by rw [hbel1.cell (World.block_lt_of_cell? _ _ (hc0 i hi))]; exact hc0 i hi) hbel1 (Nat.le_refl _)
  rw [hcp]
  clear hcp hown hgrow hbel1
  have hH : Holds8 w2 (some ⟨w.heap.size, 0, none⟩) L := fun _ => ⟨_, rfl, fun i hi => by rw [hown2.cellAt i (by omega)]; exact Cells8_get L i hi⟩
  have hg2 : w.heap.size < w2.heap.size := (hown2.lt _ rfl).2
  have hcap : L.length ≤ maxLen := by unfold maxLen; omega
  clear hown2
  go_wp2_with fail
  refine (pack_any _ _ L _ (by omega) hL8 hH (Nat.le_refl _) hcap).mono ?_
  rintro e w3 ⟨g, m, O, rfl, hO, hm, hpb, hown3, hbel3⟩
  rw [hMl.out] at hm hpb
  have hm1 : (m : Int) ≤ 7 * (L.length : Int) / 8 := by omega
  have hm2 : 7 * (L.length : Int) / 8 ≤ (m : Int) := by omega
  have hm3 : 7 * L.length ≤ 8 * m := by omega
  clear hm hc0
  have hS : Hid (∀ i, i < L.length → w3.cell? ⟨w.heap.size, i, none⟩ = some (.int .u8 ((L.getD i 0 : Nat) : Int))) := by
    intro i hi
    obtain ⟨b', hb', hc'⟩ := hH (by omega)
    cases hb'
    rw [hbel3.cell (by exact hg2)]; exact hc' i hi
  have HOut : Hid (∀ i, i < m → w3.cell? ⟨g, i, none⟩ = some (.int .u8 ((O.getD i 0 : Nat) : Int))) := by
    intro i hi
    rw [hown3.cellAt i (by omega)]; exact Cells8_get O i (by omega)
  have HPB := show Hid _ from hpb
  have HB : Hid (Below w.heap.size w w3) := hbel2.trans (hbel3.mono (by omega))
  clear hpb hown3 hbel3 hbel2 hH hO
  go_wp2
  go_loop [9] (fun i => ∃ j : Nat, j ≤ 8 * m ∧ i = .int .i64 j) (fun i => 8 * m - (intOf i).toNat)
  case atStart => exact ⟨0, Nat.zero_le _, rfl⟩
  case round =>
    obtain ⟨j, hj, rfl⟩ := hrel
    by_cases hlt : j < 8 * m
    · have hx := HOut.out (j / 8) (by omega)
      by_cases hb7 : j < 7 * L.length
      · have hr := read_in HPB.out (hM8 _) hb7
        by_cases hk : j / 7 < L.length
        · have hs := hS.out (j / 7) hk
          rw [HM.out _ hk] at hr
          generalize O.getD (j / 8) 0 = x at *
          generalize L.getD (j / 7) 0 = c at *
          clear hM8 hL8
          go_wp2
          go_round
          case rel => exact ⟨j + 1, by omega, by go_num⟩
          case measure => simp [intOf]; omega
        · omega
      · omega
    · go_wp2
      go_ret
      exact ⟨rfl, HB.out⟩

set_option maxHeartbeats 400000 in
theorem bm_rowx (ad : Addr) (cap : Nat) (L : List Nat) (w : World) (hL : L.length ≤ 1048576) (hL8 : ∀ i, L.getD i 0 < 256)
    (hc0 : ∀ i, i < L.length → w.cell? (ad.add i) = some (.int .u8 ((L.getD i 0 : Nat) : Int)))
    (h7 : ((L.length : Int) % 8 == 7) = false) (h8 : (7 * (L.length : Int) % 8 != 0) = true) :
    Calls Try.prog 3 #[.slice (some ad) L.length cap] w fun e w' => e = .returned (.bool true) ∧ Below w.heap.size w w' := by
  obtain ⟨i0, hi, hz0, hz1, hz2⟩ := info_parts info5
  have hP : Hid (padded L = L) := by show _ = _; rw [pad_no (by rw [beq_eq_false_iff_ne] at h7; omega)]
  have hM8 : ∀ i, (padded L).getD i 0 < 256 := by rw [hP.out]; exact hL8
  have hMl : Hid ((padded L).length = L.length) := by rw [hP.out]; show _ = _; simp
  have HM : Hid (∀ i, i < L.length → (padded L).getD i 0 = L.getD i 0) := by rw [hP.out]; intro i hi; simp [List.getD]
  have HM13 : Hid (∀ i, ¬ i < L.length → i < L.length → (padded L).getD i 0 = 13) := by rw [hP.out]; intro i hi hi2; omega
  have h7' : L.length % 8 ≠ 7 := by rw [beq_eq_false_iff_ne] at h7; omega
  have h8' : L.length % 8 ≠ 0 := by rw [bne_iff_ne] at h8; omega
  go_enter Try.func3, Try.ntmps3
  go_wp2_with (first
    | (go_at_call 5; go_in)
    | (at_make; refine wpList_make_full _ rfl _ _ 22 rfl w.heap.size 5 i0 (.int .u8 0) 1 Try.underlying22 hi hz0 hz1 _ _ _ _ L.length rfl rfl (by omega) (by omega) (by rw [hz2]; omega) (by unfold maxLen; omega) (by simp) ?_; intro w1 hown hgrow))
  rw [Cells8_zero] at hown
  have hbel1 : Below w.heap.size w w1 := (Below.refl _ _).grown hgrow (Nat.le_refl _) (by simp)
  obtain ⟨w2, hcp, hown2, hbel2⟩ := copy_row (sCap := cap) hown rfl ad (fun i hi => by rw [hbel1.cell (World.block_lt_of_cell? _ _ (hc0 i hi))]; exact hc0 i hi) hbel1 (Nat.le_refl _)
  rw [hcp]
  clear hcp hown hgrow hbel1
  have hH : Holds8 w2 (some ⟨w.heap.size, 0, none⟩) L := fun _ => ⟨_, rfl, fun i hi => by rw [hown2.cellAt i (by omega)]; exact Cells8_get L i hi⟩
  have hg2 : w.heap.size < w2.heap.size := (hown2.lt _ rfl).2
  have hcap : L.length ≤ maxLen := by unfold maxLen; omega
  clear hown2
  go_wp2_with fail
  refine (pack_any _ _ L _ (by omega) hL8 hH (Nat.le_refl _) hcap).mono ?_
  rintro e w3 ⟨g, m, O, rfl, hO, hm, hpb, hown3, hbel3⟩
  rw [hMl.out] at hm hpb
  have hm1 : (m : Int) ≤ 7 * (L.length : Int) / 8 + 1 := by have := want_len _ _ h8' hm; omega
  have hm2 : 7 * (L.length : Int) / 8 + 1 ≤ (m : Int) := by have := want_len _ _ h8' hm; omega
  have hm3 : 7 * L.length ≤ 8 * m := by omega
  clear hm hc0
  have hS : Hid (∀ i, i < L.length → w3.cell? ⟨w.heap.size, i, none⟩ = some (.int .u8 ((L.getD i 0 : Nat) : Int))) := by
    intro i hi
    obtain ⟨b', hb', hc'⟩ := hH (by omega)
    cases hb'
    rw [hbel3.cell (by exact hg2)]; exact hc' i hi
  have HOut : Hid (∀ i, i < m → w3.cell? ⟨g, i, none⟩ = some (.int .u8 ((O.getD i 0 : Nat) : Int))) := by
    intro i hi
    rw [hown3.cellAt i (by omega)]; exact Cells8_get O i (by omega)
  have HPB := show Hid _ from hpb
  have HB : Hid (Below w.heap.size w w3) := hbel2.trans (hbel3.mono (by omega))
  clear hpb hown3 hbel3 hbel2 hH hO
  go_wp2
  go_loop [9] (fun i => ∃ j : Nat, j ≤ 8 * m ∧ i = .int .i64 j) (fun i => 8 * m - (intOf i).toNat)
  case atStart => exact ⟨0, Nat.zero_le _, rfl⟩
  case round =>
    obtain ⟨j, hj, rfl⟩ := hrel
    by_cases hlt : j < 8 * m
    · have hx := HOut.out (j / 8) (by omega)
      by_cases hb7 : j < 7 * L.length
      · have hr := read_in HPB.out (hM8 _) hb7
        by_cases hk : j / 7 < L.length
        · have hs := hS.out (j / 7) hk
          rw [HM.out _ hk] at hr
          generalize O.getD (j / 8) 0 = x at *
          generalize L.getD (j / 7) 0 = c at *
          clear hM8 hL8
          go_wp2
          go_round
          case rel => exact ⟨j + 1, by omega, by go_num⟩
          case measure => simp [intOf]; omega
        · omega
      · have hr := read_out HPB.out hb7
        generalize O.getD (j / 8) 0 = x at *
        clear hM8 hL8
        go_wp2
        go_round
        case rel => exact ⟨j + 1, by omega, by go_num⟩
        case measure => simp [intOf]; omega
    · go_wp2
      go_ret
      exact ⟨rfl, HB.out⟩

theorem bm_any (ad : Addr) (cap : Nat) (L : List Nat) (w : World) (hL : L.length ≤ 1048576) (hL8 : ∀ i, L.getD i 0 < 256)
    (hc0 : ∀ i, i < L.length → w.cell? (ad.add i) = some (.int .u8 ((L.getD i 0 : Nat) : Int))) :
    Calls Try.prog 3 #[.slice (some ad) L.length cap] w fun e w' => e = .returned (.bool true) ∧ Below w.heap.size w w' := by
  by_cases h7 : L.length % 8 = 7
  · exact bm_row7 ad cap L w hL hL8 hc0 (by rw [beq_iff_eq]; omega) (by rw [bne_eq_false_iff_eq]; omega)
  · by_cases h0 : L.length % 8 = 0
    · exact bm_row0 ad cap L w hL hL8 hc0 (by rw [beq_eq_false_iff_ne]; omega) (by rw [bne_eq_false_iff_eq]; omega)
    · exact bm_rowx ad cap L w hL hL8 hc0 (by rw [beq_eq_false_iff_ne]; omega) (by rw [bne_iff_ne]; omega)

/-- Longer than the bound: it returns at once. -/
theorem bm_over (ao : Option Addr) (n cap : Nat) (w : World) (hn : 1048576 < n) (hm : n ≤ maxLen) :
    Calls Try.prog 3 #[.slice ao n cap] w fun e w' => e = .returned (.bool true) ∧ Below w.heap.size w w' := by
  unfold maxLen at hm
  go_enter Try.func3, Try.ntmps3
  go_wp2
  go_ret
  exact ⟨rfl, Below.refl _ _⟩

/-- The nil slice. -/
theorem bm_nil (w : World) :
    Calls Try.prog 3 #[.slice none 0 0] w fun e w' => e = .returned (.bool true) ∧ Below w.heap.size w w' := by
  go_enter Try.func3, Try.ntmps3
  go_wp2_with (go_at_call 5; go_in)
  refine (pack_any none 0 [] _ (by simp) (by intro i; simp) (fun h => by simp at h) (by simp) (by unfold maxLen; omega)).mono ?_
  rintro e w3 ⟨g, m, O, rfl, hO, hm, hpb, hown3, hbel3⟩
  have hm0 : m = 0 := by simpa [padded] using hm
  subst hm0
  clear hm hpb hown3 hO
  have HB := show Hid _ from hbel3
  clear hbel3
  go_wp2
  refine wp_loop_rounds 1 ?_
  rw [rounds_succ]
  go_wp2
  go_ret
  exact ⟨rfl, HB.out⟩

end Go.Proofs.Qxb6628651a
