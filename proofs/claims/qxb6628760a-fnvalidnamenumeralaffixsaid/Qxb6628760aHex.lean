import Derived.Test.Qxb6628760aValid
import Derived.Laws.IdiomStrings
namespace Go.Proofs.Qxb6628760a
open Go.RowKit

def C8 (L : List UInt8) : List Value := L.map (fun b => Value.int .u8 (b.toNat : Int))
theorem C8_length (L : List UInt8) : (C8 L).length = L.length := by simp [C8]
theorem C8_get (L : List UInt8) (i : Nat) (h : i < L.length) : (C8 L)[i]? = some (.int .u8 (L[i].toNat : Int)) := by simp [C8, h]
theorem C8_snoc (L : List UInt8) (x : UInt8) : C8 L ++ [.int .u8 (x.toNat : Int)] = C8 (L ++ [x]) := by simp [C8]
theorem info5 : (Try.prog.info? 5).map (fun i => (i.zero, i.size, i.bytes)) = some (some (.int .u8 0), 1, 1) := by kernel_rfl

def hexs : ByteArray := ⟨#[48, 49, 50, 51, 52, 53, 54, 55, 56, 57, 97, 98, 99, 100, 101, 102]⟩
theorem hexs_ok (i : Nat) (h : i < hexs.size) : okc (hexs[i]).toNat = true := by
  have h16 : i < 16 := h
  have : i = 0 ∨ i = 1 ∨ i = 2 ∨ i = 3 ∨ i = 4 ∨ i = 5 ∨ i = 6 ∨ i = 7 ∨ i = 8 ∨ i = 9 ∨ i = 10 ∨ i = 11 ∨ i = 12 ∨ i = 13 ∨ i = 14 ∨ i = 15 := by omega
  rcases this with rfl | rfl | rfl | rfl | rfl | rfl | rfl | rfl | rfl | rfl | rfl | rfl | rfl | rfl | rfl | rfl <;> rfl

set_option maxHeartbeats 1000000 in
theorem hex_any (s : ByteArray) (w : World) (hs : s.size ≤ 1048576) :
    Calls Try.prog 9 #[.string s] w fun e w' => (∃ t : ByteArray, e = .returned (.string t) ∧ t.size = 2 * s.size ∧ ∀ b ∈ t.data.toList, okc b.toNat = true) ∧ Below w.heap.size w w' := by
  obtain ⟨i0, hi, hz0, hz1, hz2⟩ := info_parts info5
  go_enter Try.func9, Try.ntmps9
  go_wp2_with (at_make; refine wpList_make_own _ rfl _ _ 29 rfl w.heap.size 5 i0 _ 1 Try.underlying29 hi hz0 hz1 _ _ _ (2 * s.size) rfl rfl (by omega) (by rw [hz2]; omega) (by unfold maxLen; omega) (by simp) ?_; intro w1 hown1 hgrow1)
  have hb1 : Below w.heap.size w w1 := (Below.refl _ _).grown hgrow1 (Nat.le_refl _) (by simp)
  clear hgrow1
  go_loopw [3, 4] (fun v c wr => ∃ (j : Nat) (L : List UInt8), j ≤ s.size ∧ c = .int .i64 j ∧ L.length = 2 * j ∧ (∀ b ∈ L, okc b.toNat = true) ∧ v = .slice (some ⟨w.heap.size, 0, none⟩) (2 * j) (2 * s.size) ∧ wr.ownsRow w.heap.size 5 1 v (2 * j) (C8 L) ∧ Below w.heap.size w wr) (fun _ c _ => s.size - (intOf c).toNat)
  case atStart => exact ⟨0, [], Nat.zero_le _, rfl, rfl, by simp, rfl, hown1, hb1⟩
  case round =>
    obtain ⟨j, L, hj, rfl, hL, hok, rfl, hown, hbel⟩ := hrel
    clear hown1 hb1
    have Ho := hid hown
    have Hb := hid hbel
    have HL := hid hL
    have Hok := hid hok
    have hgw : w.heap.size < wr.heap.size := (hown.lt _ rfl).2
    clear hown hbel hL hok
    by_cases hlt : j < s.size
    · have hc := (s[j]'hlt).toNat_lt
      have hand : bits .and .u8 ((s[j]'hlt).toNat : Int) 15 = (((s[j]'hlt).toNat % 16 : Nat) : Int) := by
        have e := u8_and_nat (s[j]'hlt).toNat 15 (by omega) (by omega)
        have e' : bits .and .u8 ((s[j]'hlt).toNat : Int) 15 = (((s[j]'hlt).toNat &&& 15 : Nat) : Int) := e
        rw [e', show (15 : Nat) = 2 ^ 4 - 1 from rfl, Nat.and_two_pow_sub_one_eq_mod]
      have h1 : (s[j]'hlt).toNat / 16 < hexs.size := by show _ < 16; omega
      have h2 : (s[j]'hlt).toNat % 16 < hexs.size := by show _ < 16; omega
      have Hx := hid (hexs_ok _ h1)
      have Hy := hid (hexs_ok _ h2)
      have hfit1 : 2 * j + 1 ≤ 2 * s.size := by omega
      have hfit2 : 2 * j + 1 + 1 ≤ 2 * s.size := by omega
      go_wp2_with (first
        | (at_builtin; refine wpList_append_fits _ rfl (.tmp 19) (.tmp 23) 29 rfl w.heap.size 5 i0 1 Try.underlying29 hi hz1 w.heap.size (2 * j) (2 * s.size) _ rfl (Ho.out.alloc _) ⟨wr.heap.size, 0, none⟩ 1 1 [.int .u8 ((hexs[(s[j]'hlt).toNat / 16]'h1).toNat : Int)] rfl rfl (cell_one_new _ _ _) (by intro u hu; simp at hu; subst hu; rfl) hfit1 ?_; intro w2 hown2 hgrow2; have hb2 := (Hb.out.alloc (by omega) _).grown hgrow2 (by simp; omega) (by intro q hq; cases hq; exact Nat.le_refl _); have Ho2 := hid hown2; have Hb2 := hid hb2; have hgw2 := (hown2.lt _ rfl).2; clear hown2 hgrow2 hb2)
        | (at_builtin; refine wpList_append_fits _ rfl (.tmp 25) (.tmp 29) 29 rfl w.heap.size 5 i0 1 Try.underlying29 hi hz1 w.heap.size (2 * j + 1) (2 * s.size) _ rfl (Ho2.out.alloc _) ⟨w2.heap.size, 0, none⟩ 1 1 [.int .u8 ((hexs[(s[j]'hlt).toNat % 16]'h2).toNat : Int)] rfl rfl (cell_one_new _ _ _) (by intro u hu; simp at hu; subst hu; rfl) hfit2 ?_; intro w3 hown3 hgrow3))
      have Hb3 := hid ((Hb2.out.alloc (by omega) _).grown hgrow3 (by simp; omega) (by intro q hq; cases hq; exact Nat.le_refl _))
      have h3 : w3.ownsRow w.heap.size 5 1 (.slice (some ⟨w.heap.size, 0, none⟩) (2 * j + 1 + 1) (2 * s.size)) (2 * j + 1 + 1) (C8 (L ++ [hexs[(s[j]'hlt).toNat / 16]'h1] ++ [hexs[(s[j]'hlt).toNat % 16]'h2])) := by
        rw [← C8_snoc, ← C8_snoc]; exact hown3
      refine ⟨⟨j + 1, L ++ [hexs[(s[j]'hlt).toNat / 16]'h1] ++ [hexs[(s[j]'hlt).toNat % 16]'h2], by omega, by go_num, by simp [HL.out]; omega, ?_, rfl, h3, Hb3.out⟩, by simp [intOf]; omega⟩
      intro b hb
      rcases List.mem_append.1 hb with h | h
      · rcases List.mem_append.1 h with h | h
        · exact Hok.out b h
        · rw [List.mem_singleton.1 h]; exact Hx.out
      · rw [List.mem_singleton.1 h]; exact Hy.out
    · obtain rfl : j = s.size := by omega
      have hcv := run_convert_bytes_back (P := Try.prog) wr 29 9 5 ⟨w.heap.size, 0, none⟩ (2 * s.size) L Try.underlying29 Try.underlying5 Try.underlying9 (fun q hq => by
        rw [Addr.add_lit, Nat.zero_add, Ho.out.cellAt q (by have := HL.out; omega)]; exact C8_get L q hq)
      rw [HL.out] at hcv
      go_wp2
      go_ret
      exact ⟨⟨⟨L.toArray⟩, rfl, by show L.toArray.size = _; simpa using HL.out, Hok.out⟩, Hb.out⟩
end Go.Proofs.Qxb6628760a
