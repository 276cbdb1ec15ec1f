import Derived.Test.Qxb6628760aHex
import Derived.Deep.DeepCutAuto
namespace Go.Proofs.Qxb6628760a
open Go.RowKit

theorem u64_nat (x : Int) : ∃ u : Nat, IntKind.u64.wrap x = (u : Int) ∧ u < 18446744073709551616 := by
  refine ⟨(x % 18446744073709551616).toNat, ?_, by omega⟩
  simp [IntKind.wrap, IntKind.bits, IntKind.signed]
  omega

/-- Empty, or a name. -/
def orNil (l : List UInt8) : Bool := l.isEmpty || validB l
theorem orNil_all (l : List UInt8) : orNil l = l.all (fun b => okc b.toNat) := by
  cases l with
  | nil => rfl
  | cons x l => simp [orNil, validB]
theorem bytes_append (a b : ByteArray) : (a ++ b).data.toList = a.data.toList ++ b.data.toList := by simp
/-- A name put before something is a name just where that is empty or a name; likewise behind. -/
theorem valid_append (a b : ByteArray) : validB (a ++ b).data.toList = (!(a ++ b).data.toList.isEmpty && (orNil a.data.toList && orNil b.data.toList)) := by
  rw [orNil_all, orNil_all, validB, bytes_append, List.all_append]

theorem slice_buf (g k : Nat) (hk : 1 ≤ k) (hk2 : k ≤ 20) (W : World) :
    (Instr.sliceAt 28 (.pointer (some ⟨g, 0, none⟩)) (some (.int .i64 ((k : Int) - 1))) none none).run Try.prog W = .ok (.slice (some ⟨g, k - 1, none⟩) (20 - (k - 1)) (20 - (k - 1))) W := by
  have hal : Try.prog.arrayLen 28 = 20 := by kernel_rfl
  have hel : Try.prog.elem 28 = 5 := by kernel_rfl
  obtain ⟨i0, hi, hz0, hz1, hz2⟩ := info_parts info5
  rw [run_sliceAt_array_l (P := Try.prog) W 28 ⟨g, 0, none⟩ (by rw [hal, hel]; exact Try.underlying28) .i64 ((k : Int) - 1) (by omega) (by rw [hal]; omega), hal, hel]
  have e : ((k : Int) - 1).toNat = k - 1 := by omega
  rw [e]
  simp [sizeOf, typeInfo, hi, hz1, slicedAt, show ¬ (20 = k - 1) by omega, Addr.add_lit]

def okd (b : UInt8) : Prop := 48 ≤ b.toNat ∧ b.toNat ≤ 57

set_option maxRecDepth 100000 in
set_option maxHeartbeats 1000000 in
theorem dec_any (n : Int) (w : World) (h1 : -9223372036854775808 ≤ n) (h2 : n ≤ 9223372036854775807) :
    Calls Try.prog 6 #[.int .i64 n] w fun e w' => (∃ t : ByteArray, e = .returned (.string t) ∧ t.size ≤ 21 ∧ validB t.data.toList = true) ∧ Below w.heap.size w w' := by
  go_enter Try.func6, Try.ntmps6
  go_upto_if 10 with fail
  have hb0 := u64_nat n
  generalize IntKind.u64.wrap n = m0 at *
  have Hb0 := hid hb0
  clear hb0
  go_cut [3] (fun v wx => ∃ u : Nat, u < 18446744073709551616 ∧ v = .int .u64 u ∧ wx = w)
  case first =>
    by_cases hn : n < 0
    · go_wp2
      go_meet
      obtain ⟨u, hu, hu2⟩ := u64_nat (-m0)
      exact ⟨u, hu2, by rw [← hu], rfl⟩
    · go_wp2
      go_meet
      obtain ⟨u, hu, hu2⟩ := Hb0.out
      exact ⟨u, hu2, by rw [← hu], rfl⟩
  case rest =>
    obtain ⟨u, hu, rfl, hwc⟩ := hcut
    subst hwc
    clear Hb0
    have Hu := hid hu
    have hu' : (u : Int) ≤ 18446744073709551615 := by omega
    clear hu
    obtain ⟨wz, rfl⟩ : ∃ wz : World, wz = wc := ⟨_, rfl⟩
    go_wp2
    go_loopw [3, 5] (fun v c wr => ∃ (k u : Nat) (B : List UInt8), 1 ≤ k ∧ k ≤ 20 ∧ c = .int .i64 k ∧ v = .int .u64 u ∧ u < 10 ^ k ∧ (u : Int) ≤ 18446744073709551615 ∧ B.length = 20 ∧ (∀ i, k ≤ i → i < 20 → okd (B.getD i 0)) ∧ wr.heap[wz.heap.size]? = some (.cells (C8 B).toArray 28 (0, 0)) ∧ Below wz.heap.size wz wr) (fun _ c _ => (intOf c).toNat)
    case atStart =>
      refine ⟨20, u, List.replicate 20 0, by omega, by omega, rfl, rfl, ?_, hu', by simp, fun i h3 h4 => by omega, ?_, (Below.refl _ _).alloc (Nat.le_refl _) _⟩
      · have := Hu.out
        have e : (10 : Nat) ^ 20 = 100000000000000000000 := by decide
        rw [e]; omega
      · rw [heap_alloc_new]; rfl
    case round =>
      obtain ⟨k, u, B, hk1, hk2, rfl, rfl, hu10, huB, hBl, hokd, hrow, hbel⟩ := hrel
      have hcell := cell_of_row wr wz.heap.size (k - 1) _ 28 (0, 0) hrow
      have e20 : (C8 B).toArray[k - 1]? = some (.int .u8 ((B.getD (k - 1) 0).toNat : Int)) := by
        have := C8_get B (k - 1) (by omega)
        simpa [List.getD, List.getElem?_eq_getElem (show k - 1 < B.length by omega)] using this
      rw [e20] at hcell
      have hfr := frozen_of_row wr wz.heap.size (k - 1) _ 28 hrow
      have hset := heap_setCell_same wr wz.heap.size (k - 1) _ 28 (.int .u8 (48 + (u : Int) % 10)) hrow
      have hbs := hbel.setCell (p := ⟨wz.heap.size, k - 1, none⟩) (Nat.le_refl _) (.int .u8 (48 + (u : Int) % 10))
      have hx : (UInt8.ofNat (48 + u % 10)).toNat = 48 + u % 10 := by simp [UInt8.toNat_ofNat]; omega
      have e21 : (C8 B).toArray.setIfInBounds (k - 1) (.int .u8 (48 + (u : Int) % 10)) = (C8 (B.set (k - 1) (UInt8.ofNat (48 + u % 10)))).toArray := by
        have e : (48 + (u : Int) % 10) = ((UInt8.ofNat (48 + u % 10)).toNat : Int) := by rw [hx]; omega
        rw [e]; simp [C8, List.map_set]
      rw [e21] at hset
      have hokd2 : ∀ i, k - 1 ≤ i → i < 20 → okd ((B.set (k - 1) (UInt8.ofNat (48 + u % 10))).getD i 0) := by
        intro i h3 h4
        by_cases hik : i = k - 1
        · subst hik
          have e : (B.set (k - 1) (UInt8.ofNat (48 + u % 10))).getD (k - 1) 0 = UInt8.ofNat (48 + u % 10) := by simp [List.getD, show k - 1 < B.length by omega]
          rw [e]; unfold okd; rw [hx]; omega
        · have e : (B.set (k - 1) (UInt8.ofNat (48 + u % 10))).getD i 0 = B.getD i 0 := by simp [List.getD, Ne.symm hik]
          rw [e]; exact hokd i (by omega) h4
      have Hset := hid hset
      have Hbs := hid hbs
      have Hokd := hid hokd2
      have HBl : Hid ((B.set (k - 1) (UInt8.ofNat (48 + u % 10))).length = 20) := by show _ = _; simp [hBl]
      have Hu10 : Hid (u / 10 < 10 ^ (k - 1)) := by
        have e : 10 ^ k = 10 * 10 ^ (k - 1) := by rw [← Nat.pow_succ']; congr 1; omega
        rw [e] at hu10
        exact Nat.div_lt_of_lt_mul hu10
      have hk1' : (1 : Int) ≤ (k : Int) := by omega
      generalize B.set (k - 1) (UInt8.ofNat (48 + u % 10)) = B2 at *
      generalize (B.getD (k - 1) 0).toNat = old at *
      clear hset hbs hokd hokd2 hrow hbel hBl e20 e21 hu10 hx
      by_cases hz : u / 10 = 0
      · have hzb : ((u : Int) / 10 == 0) = true := by rw [beq_iff_eq]; omega
        have hsl := slice_buf wz.heap.size k hk1 hk2
        have hl : (B2.drop (k - 1)).length = 20 - (k - 1) := by rw [List.length_drop, HBl.out]
        have hcv := run_convert_bytes_back (P := Try.prog) (wr.setCell ⟨wz.heap.size, k - 1, none⟩ (.int .u8 (48 + (u : Int) % 10))) 29 9 5 ⟨wz.heap.size, k - 1, none⟩ (20 - (k - 1)) (B2.drop (k - 1)) Try.underlying29 Try.underlying5 Try.underlying9 (fun q hq => by
          rw [Addr.add_lit, cell_of_row _ wz.heap.size (k - 1 + q) _ 28 (0, 0) Hset.out]
          have := C8_get B2 (k - 1 + q) (by rw [hl] at hq; rw [HBl.out]; omega)
          simpa using this)
        rw [hl] at hcv
        have Hv : Hid (validB (B2.drop (k - 1)) = true) := by
          show _ = _
          have e1 : (B2.drop (k - 1)).isEmpty = false := by
            rw [List.isEmpty_eq_false_iff]; intro h; rw [h] at hl; simp at hl; omega
          have e2 : (B2.drop (k - 1)).all (fun b => okc b.toNat) = true := by
            rw [List.all_eq_true]
            intro b hb
            obtain ⟨i, hi, rfl⟩ := List.mem_iff_getElem.1 hb
            have := Hokd.out (k - 1 + i) (by omega) (by rw [hl] at hi; omega)
            have e : B2.getD (k - 1 + i) 0 = (B2.drop (k - 1))[i] := by
              rw [List.getElem_drop]; simp [List.getD, List.getElem?_eq_getElem (show k - 1 + i < B2.length by rw [HBl.out]; rw [hl] at hi; omega)]
            rw [e] at this
            unfold okd at this
            rw [okc, decide_eq_true_iff]; omega
          simp [validB, e1, e2]
        have Hl := hid hl
        clear hl
        generalize B2.drop (k - 1) = D at *
        have hD : D.length ≤ 20 := by rw [Hl.out]; omega
        by_cases hn : n < 0
        · go_wp2
          go_ret
          refine ⟨⟨_, rfl, ?_, ?_⟩, Hbs.out⟩
          · rw [ByteArray.size_append]; show 1 + D.toArray.size ≤ 21; simp; omega
          · rw [valid_append, bytes_append]
            show (!((45 : UInt8) :: D).isEmpty && (orNil [45] && orNil D)) = true
            have e : orNil D = true := by rw [orNil, Hv.out]; simp
            rw [e]; rfl
        · go_wp2
          go_ret
          exact ⟨⟨_, rfl, by show D.toArray.size ≤ 21; simp; omega, Hv.out⟩, Hbs.out⟩
      · have hzb : ((u : Int) / 10 == 0) = false := by rw [beq_eq_false_iff_ne]; omega
        have hk3 : Hid (1 ≤ k - 1) := by
          have h := Hu10.out
          rcases Nat.eq_zero_or_pos (k - 1) with h0 | h0
          · rw [h0] at h; simp at h; omega
          · exact h0
        go_wp2
        exact ⟨⟨k - 1, u / 10, B2, hk3.out, by omega, by go_num, by go_num, Hu10.out, by omega, HBl.out, Hokd.out, Hset.out, Hbs.out⟩, by simp [intOf]; omega⟩
end Go.Proofs.Qxb6628760a
