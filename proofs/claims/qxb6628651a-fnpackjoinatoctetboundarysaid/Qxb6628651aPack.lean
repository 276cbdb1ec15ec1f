import Derived.Test.Qxb6628651aRows
import Derived.Test.Qxb6628651aPlain
import Derived.WalkKit
import Derived.ProofKit
import Derived.OpenShut
import Derived.ShutString
import Derived.ChangeOld
import Derived.Below
import Derived.WalkSpells
import Derived.WalkLawsBesides
import Derived.BigRegion
import Derived.Deep.QuietTactic
import Derived.BigQuiet
namespace Go.Proofs.Qxb6628651a
open Go.RowKit

def Cells8 (L : List Nat) : List Value := L.map (fun (x : Nat) => Value.int .u8 (x : Int))

theorem Cells8_length (L : List Nat) : (Cells8 L).length = L.length := by simp [Cells8]
theorem Cells8_get (L : List Nat) (i : Nat) (h : i < L.length) : (Cells8 L)[i]? = some (.int .u8 ((L.getD i 0 : Nat) : Int)) := by
  simp [Cells8, List.getD, h]
theorem Cells8_set (L : List Nat) (i x : Nat) : (Cells8 L).set i (.int .u8 (x : Int)) = Cells8 (L.set i x) := by simp [Cells8, List.map_set]
theorem Cells8_one (L : List Nat) : ∀ u ∈ Cells8 L, u.oneCell' = true := by
  intro u hu; obtain ⟨_, _, rfl⟩ := List.mem_map.1 hu; rfl
theorem Cells8_zero (m : Nat) : (madeCells (Value.int .u8 0).cells (m * 1)).toList = Cells8 (List.replicate m 0) := by
  rw [Nat.mul_one]
  show (madeCells #[Value.int .u8 0] m).toList = _
  rw [toList_madeCells_one]; simp [Cells8]

theorem info5 : (Try.prog.info? 5).map (fun i => (i.zero, i.size, i.bytes)) = some (some (.int .u8 0), 1, 1) := by kernel_rfl

/-- What Pack packs: the septets, and one carriage return behind them where their number is 7 mod 8. -/
def padded (L : List Nat) : List Nat := if L.length % 8 = 7 then L ++ [13] else L

/-- The slice holds the octets L. -/
def Holds8 (w : World) (ao : Option Addr) (L : List Nat) : Prop :=
  0 < L.length → ∃ b, ao = some ⟨b, 0, none⟩ ∧ ∀ i, i < L.length → w.cell? ⟨b, i, none⟩ = some (.int .u8 ((L.getD i 0 : Nat) : Int))

def PackPost (M : List Nat) (B : Nat) (w : World) (e : Ending) (w' : World) : Prop :=
  ∃ g m O, e = .returned (.slice (some ⟨g, 0, none⟩) m m) ∧ O.length = m ∧ m = (M.length * 7 + 7) / 8 ∧ PB M M.length O ∧
    w'.ownsRow B 5 1 (.slice (some ⟨g, 0, none⟩) m m) m (Cells8 O) ∧ Below B w w'

/-- One round's stores. -/
theorem round_one {wr : World} {B g m k : Nat} {L O : List Nat} (hO : O.length = m) (hm : m = (L.length * 7 + 7) / 8) (hlt : k < L.length) (hc : L.getD k 0 < 256)
    (hown : wr.ownsRow B 5 1 (.slice (some ⟨g, 0, none⟩) m m) m (Cells8 O)) (hpb : PB L k O) (hr : k * 7 % 8 ≤ 1) (W : World)
    (hW : W = (wr.setCell ⟨g, k * 7 / 8, none⟩ (.int .u8 (bits .or .u8 ((O.getD (k * 7 / 8) 0 : Nat) : Int) (bits .and .u8 ((L.getD k 0 : Nat) : Int) 127 * 2 ^ (k * 7 % 8) % 256)))).drew) :
    ∃ O', O'.length = m ∧ W.ownsRow B 5 1 (.slice (some ⟨g, 0, none⟩) m m) m (Cells8 O') ∧ PB L (k + 1) O' ∧ ∀ B' w', B' ≤ g → Below B' w' wr → Below B' w' W := by
  subst hW
  rw [low_num _ _ _ (hpb.1 _) hc]
  refine ⟨_, ?_, ?_, PB_one L O k (by omega) hpb hr, ?_⟩
  · simp [hO]
  · rw [← Cells8_set]; exact (hown.stored _ _).1.drew
  · exact fun B' w' hBg hbel => (hbel.setCell (by exact hBg) _).drew

theorem round_two {wr : World} {B g m k : Nat} {L O : List Nat} (hO : O.length = m) (hm : m = (L.length * 7 + 7) / 8) (hlt : k < L.length) (hc : L.getD k 0 < 256)
    (hown : wr.ownsRow B 5 1 (.slice (some ⟨g, 0, none⟩) m m) m (Cells8 O)) (hpb : PB L k O) (hr : 1 < k * 7 % 8) (W : World)
    (hW : W = ((wr.setCell ⟨g, k * 7 / 8, none⟩ (.int .u8 (bits .or .u8 ((O.getD (k * 7 / 8) 0 : Nat) : Int) (bits .and .u8 ((L.getD k 0 : Nat) : Int) 127 * 2 ^ (k * 7 % 8) % 256)))).setCell ⟨g, k * 7 / 8 + 1, none⟩ (.int .u8 (bits .or .u8 ((O.getD (k * 7 / 8 + 1) 0 : Nat) : Int) (bits .and .u8 ((L.getD k 0 : Nat) : Int) 127 / 2 ^ (8 - k * 7 % 8))))).drew.drew) :
    ∃ O', O'.length = m ∧ W.ownsRow B 5 1 (.slice (some ⟨g, 0, none⟩) m m) m (Cells8 O') ∧ PB L (k + 1) O' ∧ ∀ B' w', B' ≤ g → Below B' w' wr → Below B' w' W := by
  subst hW
  rw [low_num _ _ _ (hpb.1 _) hc, high_num _ _ _ (hpb.1 _) hc]
  refine ⟨_, ?_, ?_, PB_two L O k (by omega) hpb hr, ?_⟩
  · simp [hO]
  · rw [← Cells8_set, ← Cells8_set]; exact ((hown.stored _ _).1.stored _ _).1.drew.drew
  · exact fun B' w' hBg hbel => ((hbel.setCell (by exact hBg) _).setCell (by exact hBg) _).drew.drew

set_option maxHeartbeats 400000 in
theorem pack_short (ao : Option Addr) (cap : Nat) (L : List Nat) (w : World) (hL : L.length ≤ 2000000) (hL8 : ∀ i, L.getD i 0 < 256) (h7 : ((L.length : Int) % 8 == 7) = false)
    (hao : Holds8 w ao L) :
    Calls Try.prog 6 #[.slice ao L.length cap] w fun e w' => PackPost L w.heap.size w e w' := by
  obtain ⟨i0, hi, hz0, hz1, hz2⟩ := info_parts info5
  go_enter Try.func6, Try.ntmps6
  go_wp2_with (first | go_in | (at_make; refine wpList_make_full _ rfl _ _ 22 rfl w.heap.size 5 i0 (.int .u8 0) 1 Try.underlying22 hi hz0 hz1 _ _ _ _ ((L.length * 7 + 7) / 8) rfl rfl (by omega) (by omega) (by rw [hz2]; omega) (by unfold maxLen; omega) (by simp) ?_; intro w1 hown hgrow))
  rw [Cells8_zero] at hown
  generalize hm : (L.length * 7 + 7) / 8 = m at *
  have HM : Hid (m = (L.length * 7 + 7) / 8) := hm.symm
  clear hm
  go_loopw [25] (fun i wr => ∃ (k : Nat) (O : List Nat), k ≤ L.length ∧ i = .int .i64 k ∧ O.length = m ∧ wr.ownsRow w.heap.size 5 1 (.slice (some ⟨w.heap.size, 0, none⟩) m m) m (Cells8 O) ∧ PB L k O ∧ Below w.heap.size w wr) (fun i _ => L.length - (intOf i).toNat)
  case atStart => exact ⟨0, List.replicate m 0, Nat.zero_le _, rfl, by simp, hown, PB_zero L m, (Below.refl _ _).grown hgrow (Nat.le_refl _) (by simp)⟩
  case round =>
    obtain ⟨k, O, hk, rfl, hO, hown', hpb, hbel⟩ := hrel
    by_cases hlt : k < L.length
    · obtain ⟨b, rfl, hc⟩ := hao (by omega)
      have hq : k * 7 / 8 < m := by have := HM.out; omega
      have hc1 := hc k hlt
      have hc2 : wr.cell? ⟨b, k, none⟩ = some (.int .u8 (L.getD k 0 : Nat)) := by rw [hbel.cell (World.block_lt_of_cell? _ _ hc1)]; exact hc1
      have hx1 : wr.cell? ⟨w.heap.size, k * 7 / 8, none⟩ = some (.int .u8 (O.getD (k * 7 / 8) 0 : Nat)) := by rw [hown'.cellAt _ (by omega)]; exact Cells8_get _ _ (by omega)
      have hf := hown'.frozenAt (k * 7 / 8)
      have hf1 := hown'.frozenAt (k * 7 / 8 + 1)
      have i1 : (k : Int) * 7 / 8 < (m : Int) := by omega
      have i2 : 0 ≤ (k : Int) * 7 / 8 := by omega
      have R1 := fun hr W hW => round_one hO HM.out hlt (hL8 k) hown' hpb hr W hW
      have R2 := fun hr W hW => round_two hO HM.out hlt (hL8 k) hown' hpb hr W hW
      have hy1 : 1 < k * 7 % 8 → wr.cell? ⟨w.heap.size, k * 7 / 8 + 1, none⟩ = some (.int .u8 (O.getD (k * 7 / 8 + 1) 0 : Nat)) := fun h => by rw [hown'.cellAt _ (by have := HM.out; omega)]; exact Cells8_get _ _ (by have := HM.out; omega)
      have hq1 : 1 < k * 7 % 8 → k * 7 / 8 + 1 < m := fun h => by have := HM.out; omega
      clear hc1 hc hown' hpb hown hgrow hL8 hO
      have HR1 := show Hid _ from R1
      have HR2 := show Hid _ from R2
      clear R1 R2
      have HB := show Hid _ from hbel
      clear hbel
      have hcase : (k * 7 % 8 ≤ 1 ∧ ¬ (1 : Int) < (k : Int) * 7 % 8) ∨ (1 < k * 7 % 8 ∧ (1 : Int) < (k : Int) * 7 % 8) := by
        have e : ((k * 7 % 8 : Nat) : Int) = (k : Int) * 7 % 8 := by rw [Int.natCast_emod, Int.natCast_mul]; rfl
        rw [← e]
        rcases Nat.lt_or_ge 1 (k * 7 % 8) with h | h
        · exact .inr ⟨h, by omega⟩
        · exact .inl ⟨h, by omega⟩
      generalize O.getD (k * 7 / 8) 0 = x at *
      generalize O.getD (k * 7 / 8 + 1) 0 = y at *
      generalize L.getD k 0 = c at *
      rcases hcase with ⟨hr, hd⟩ | ⟨hr', hd⟩
      · skip
        clear hy1 hq1
        go_wp2
        go_region
        go_wp2
        obtain ⟨O', r1, r2, r3, r4⟩ := HR1.out hr _ rfl
        go_roundw
        case rel => exact ⟨k + 1, O', by omega, by go_num, r1, r2, r3, r4 _ _ (Nat.le_refl _) HB.out⟩
        case measure => simp [intOf]; omega
      · have hy := hy1 hr'
        have hq2 := hq1 hr'
        have i3 : (k : Int) * 7 / 8 + 1 < (m : Int) := by omega
        clear hy1 hq1
        go_wp2
        go_region
        go_wp2
        go_region
        go_wp2
        obtain ⟨O', r1, r2, r3, r4⟩ := HR2.out hr' _ rfl
        go_roundw
        case rel => exact ⟨k + 1, O', by omega, by go_num, r1, r2, r3, r4 _ _ (Nat.le_refl _) HB.out⟩
        case measure => simp [intOf]; omega
    · go_wp2
      go_ret
      exact ⟨_, m, O, rfl, hO, HM.out, by rw [show L.length = k by omega]; exact hpb, hown', hbel⟩

/-- What a row that is owned looks like, where it is not nil. -/
theorem owns_form {w : World} {B n : Nat} {v : Value} {L : List Nat} (h : w.ownsRow B 5 1 v n (Cells8 L)) (hn : 0 < n) :
    ∃ g cap, B ≤ g ∧ g < w.heap.size ∧ v = .slice (some ⟨g, 0, none⟩) L.length cap ∧ L.length ≤ cap ∧ cap ≤ maxLen ∧ ∀ i, i < L.length → w.cell? ⟨g, i, none⟩ = some (.int .u8 ((L.getD i 0 : Nat) : Int)) := by
  have hl : L.length = n := by have := h.1; rw [Cells8_length] at this; omega
  rcases h.2 with ⟨_, rfl⟩ | ⟨g, cap, cur, rfl, hb, hg, hnc, hcm, r⟩
  · omega
  · exact ⟨g, cap, hb, (h.lt g rfl).2, by rw [hl], by omega, hcm, fun i hi => by rw [h.cellAt i (by omega)]; exact Cells8_get L i hi⟩

set_option maxHeartbeats 400000 in
theorem pack_long (b cap : Nat) (L M : List Nat) (w : World) (hL : L.length ≤ 2000000) (hM8 : ∀ i, M.getD i 0 < 256) (h7 : ((L.length : Int) % 8 == 7) = true)
    (hc0 : ∀ i, i < L.length → w.cell? ⟨b, i, none⟩ = some (.int .u8 ((L.getD i 0 : Nat) : Int))) (hlc : L.length ≤ cap) (_hcm : cap ≤ maxLen) (HLM : Hid (M = L ++ [13])) :
    Calls Try.prog 6 #[.slice (some ⟨b, 0, none⟩) L.length cap] w fun e w' => PackPost M w.heap.size w e w' := by
  obtain ⟨i0, hi, hz0, hz1, hz2⟩ := info_parts info5
  have hg0 : ∀ j (u : Value), (Cells8 L)[j]? = some u → (w.alloc (.cells #[.int .u8 13] 5)).cell? ((⟨b, 0, none⟩ : Addr).add j) = some u := by
    intro j u hj
    have hjl : j < L.length := by have := (List.getElem?_eq_some_iff.1 hj).1; rwa [Cells8_length] at this
    rw [Cells8_get L j hjl] at hj
    rw [Addr.add_lit, Nat.zero_add, World.cell?_alloc_lt _ _ _ (World.block_lt_of_cell? _ _ (hc0 j hjl)), hc0 j hjl]
    exact hj
  have HM1 : Hid (Cells8 L ++ [Value.int .u8 13] = Cells8 M) := by rw [HLM.out]; simp [Hid, Cells8]
  have hMl : M.length ≤ 2000001 := by rw [HLM.out]; simp; omega
  have hM0 : 0 < L.length + 1 := by omega
  go_enter Try.func6, Try.ntmps6
  go_wp2_with (first
     | (at_builtin; refine wpList_append_grows _ rfl _ _ 22 rfl 5 i0 (.int .u8 0) 1 1 Try.underlying22 hi hz0 hz1 hz2 rfl (by decide) (some ⟨b, 0, none⟩) L.length L.length (Cells8 L) rfl (by simp) (by simp [Cells8_length]) (by intro b' hb'; cases hb'; exact hg0) ⟨w.heap.size, 0, none⟩ 1 1 [.int .u8 13] rfl rfl (cell_one_new _ _ _) (by intro u hu; simp at hu; subst hu; rfl) (by omega) (by unfold maxLen; omega) (by omega) ?_; intro v' w1 hown1 hgrow1; rw [HM1.out] at hown1; obtain ⟨g1, cap1, hB1, hg1', rfl, hcap1, hcap1', hc11⟩ := owns_form hown1 hM0; have hbel1 : Below w.heap.size w w1 := ((Below.refl _ _).alloc (Nat.le_refl _) _).grown hgrow1 (by simp) (by simp); have hsz1 := hbel1.size; clear hown1 hgrow1 hg0 hc0)
     | go_in
     | (at_make; refine wpList_make_full _ rfl _ _ 22 rfl w.heap.size 5 i0 (.int .u8 0) 1 Try.underlying22 hi hz0 hz1 _ _ _ _ ((M.length * 7 + 7) / 8) rfl rfl (by omega) (by omega) (by rw [hz2]; omega) (by unfold maxLen; omega) (by omega) ?_; intro w2 hown hgrow))
  rw [Cells8_zero] at hown
  generalize hm : (M.length * 7 + 7) / 8 = m at *
  have HM : Hid (m = (M.length * 7 + 7) / 8) := hm.symm
  clear hm
  go_loopw [25] (fun i wr => ∃ (k : Nat) (O : List Nat), k ≤ M.length ∧ i = .int .i64 k ∧ O.length = m ∧ wr.ownsRow w.heap.size 5 1 (.slice (some ⟨w1.heap.size, 0, none⟩) m m) m (Cells8 O) ∧ PB M k O ∧ Below w.heap.size w wr ∧ Below w1.heap.size w1 wr) (fun i _ => M.length - (intOf i).toNat)
  case atStart => exact ⟨0, List.replicate m 0, Nat.zero_le _, rfl, by simp, hown, PB_zero M m, hbel1.grown hgrow hbel1.size (by simp), (Below.refl _ _).grown hgrow (Nat.le_refl _) (by simp)⟩
  case round =>
    obtain ⟨k, O, hk, rfl, hO, hown', hpb, hbel, hbel2⟩ := hrel
    by_cases hlt : k < M.length
    · skip
      have hq : k * 7 / 8 < m := by have := HM.out; omega
      have hc1 := hc11 k hlt
      have hc2 : wr.cell? ⟨g1, k, none⟩ = some (.int .u8 (M.getD k 0 : Nat)) := by rw [hbel2.cell (by exact hg1')]; exact hc1
      have hx1 : wr.cell? ⟨w1.heap.size, k * 7 / 8, none⟩ = some (.int .u8 (O.getD (k * 7 / 8) 0 : Nat)) := by rw [hown'.cellAt _ (by omega)]; exact Cells8_get _ _ (by omega)
      have hf := hown'.frozenAt (k * 7 / 8)
      have hf1 := hown'.frozenAt (k * 7 / 8 + 1)
      have i1 : (k : Int) * 7 / 8 < (m : Int) := by omega
      have i2 : 0 ≤ (k : Int) * 7 / 8 := by omega
      have R1 := fun hr W hW => round_one hO HM.out hlt (hM8 k) hown' hpb hr W hW
      have R2 := fun hr W hW => round_two hO HM.out hlt (hM8 k) hown' hpb hr W hW
      have hy1 : 1 < k * 7 % 8 → wr.cell? ⟨w1.heap.size, k * 7 / 8 + 1, none⟩ = some (.int .u8 (O.getD (k * 7 / 8 + 1) 0 : Nat)) := fun h => by rw [hown'.cellAt _ (by have := HM.out; omega)]; exact Cells8_get _ _ (by have := HM.out; omega)
      have hq1 : 1 < k * 7 % 8 → k * 7 / 8 + 1 < m := fun h => by have := HM.out; omega
      clear hc1 hc11 hown' hpb hown hgrow hM8 hO hbel1 hcap1 hcap1' hlc hB1
      have HR1 := show Hid _ from R1
      have HR2 := show Hid _ from R2
      clear R1 R2
      have HB := show Hid _ from hbel
      have HB1 := show Hid _ from hbel2
      clear hbel hbel2
      have hcase : (k * 7 % 8 ≤ 1 ∧ ¬ (1 : Int) < (k : Int) * 7 % 8) ∨ (1 < k * 7 % 8 ∧ (1 : Int) < (k : Int) * 7 % 8) := by
        have e : ((k * 7 % 8 : Nat) : Int) = (k : Int) * 7 % 8 := by rw [Int.natCast_emod, Int.natCast_mul]; rfl
        rw [← e]
        rcases Nat.lt_or_ge 1 (k * 7 % 8) with h | h
        · exact .inr ⟨h, by omega⟩
        · exact .inl ⟨h, by omega⟩
      generalize O.getD (k * 7 / 8) 0 = x at *
      generalize O.getD (k * 7 / 8 + 1) 0 = y at *
      generalize M.getD k 0 = c at *
      rcases hcase with ⟨hr, hd⟩ | ⟨hr', hd⟩
      · skip
        clear hy1 hq1
        go_wp2
        go_region
        go_wp2
        obtain ⟨O', r1, r2, r3, r4⟩ := HR1.out hr _ rfl
        go_roundw
        case rel => exact ⟨k + 1, O', by omega, by go_num, r1, r2, r3, r4 _ _ hsz1 HB.out, r4 _ _ (Nat.le_refl _) HB1.out⟩
        case measure => simp [intOf]; omega
      · have hy := hy1 hr'
        have hq2 := hq1 hr'
        have i3 : (k : Int) * 7 / 8 + 1 < (m : Int) := by omega
        clear hy1 hq1
        go_wp2
        go_region
        go_wp2
        go_region
        go_wp2
        obtain ⟨O', r1, r2, r3, r4⟩ := HR2.out hr' _ rfl
        go_roundw
        case rel => exact ⟨k + 1, O', by omega, by go_num, r1, r2, r3, r4 _ _ hsz1 HB.out, r4 _ _ (Nat.le_refl _) HB1.out⟩
        case measure => simp [intOf]; omega
    · go_wp2
      go_ret
      exact ⟨_, m, O, rfl, hO, HM.out, by rw [show M.length = k by omega]; exact hpb, hown', hbel⟩

theorem pad7 {L : List Nat} (h : L.length % 8 = 7) : padded L = L ++ [13] := if_pos h
theorem pad_no {L : List Nat} (h : ¬ L.length % 8 = 7) : padded L = L := if_neg h
theorem pad8 (L : List Nat) (h : ∀ i, L.getD i 0 < 256) : ∀ i, (L ++ [13]).getD i 0 < 256 := by
  intro i
  rcases Nat.lt_trichotomy i L.length with hi | hi | hi
  · have := h i
    simpa [List.getD, List.getElem?_append_left hi] using this
  · subst hi; simp [List.getD]
  · have : (L ++ [13])[i]? = none := by simp; omega
    simp [List.getD, this]

/-- Pack: what it hands back holds the bits of the padded septets. -/
theorem pack_any (ao : Option Addr) (cap : Nat) (L : List Nat) (w : World) (hL : L.length ≤ 2000000) (hL8 : ∀ i, L.getD i 0 < 256)
    (hao : Holds8 w ao L) (hlc : L.length ≤ cap) (hcm : cap ≤ maxLen) :
    Calls Try.prog 6 #[.slice ao L.length cap] w fun e w' => PackPost (padded L) w.heap.size w e w' := by
  by_cases h7 : L.length % 8 = 7
  · obtain ⟨b, rfl, hc⟩ := hao (by omega)
    rw [pad7 h7]
    exact pack_long b cap L (L ++ [13]) w hL (pad8 L hL8) (by rw [beq_iff_eq]; omega) hc hlc hcm rfl
  · rw [pad_no h7]
    exact pack_short ao cap L w hL hL8 (by rw [beq_eq_false_iff_ne]; omega) hao
end Go.Proofs.Qxb6628651a
