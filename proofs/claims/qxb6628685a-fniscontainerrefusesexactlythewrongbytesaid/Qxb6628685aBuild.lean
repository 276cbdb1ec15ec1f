import Derived.Test.Qxb6628685aLeaves
namespace Go.Proofs.Qxb6628685a
open Go.RowKit

def Cells8 (L : List Nat) : List Value := L.map (fun (x : Nat) => Value.int .u8 (x : Int))
theorem Cells8_length (L : List Nat) : (Cells8 L).length = L.length := by simp [Cells8]
theorem Cells8_get (L : List Nat) (i : Nat) (h : i < L.length) : (Cells8 L)[i]? = some (.int .u8 ((L.getD i 0 : Nat) : Int)) := by
  simp [Cells8, List.getD, h]
theorem Cells8_set (L : List Nat) (i x : Nat) : (Cells8 L).set i (.int .u8 (x : Int)) = Cells8 (L.set i x) := by simp [Cells8, List.map_set]
theorem Cells8_one (L : List Nat) : ∀ u ∈ Cells8 L, u.oneCell' = true := by
  intro u hu; obtain ⟨_, _, rfl⟩ := List.mem_map.1 hu; rfl
theorem Cells8_append (A B : List Nat) : Cells8 A ++ Cells8 B = Cells8 (A ++ B) := by simp [Cells8]
theorem Cells8_zero (m : Nat) : (madeCells (Value.int .u8 0).cells (m * 1)).toList = Cells8 (List.replicate m 0) := by
  rw [Nat.mul_one]
  show (madeCells #[Value.int .u8 0] m).toList = _
  rw [toList_madeCells_one]; simp [Cells8]
theorem info5 : (Try.prog.info? 5).map (fun i => (i.zero, i.size, i.bytes)) = some (some (.int .u8 0), 1, 1) := by kernel_rfl

/-- The slice at the head of block g, of n bytes, owns the bytes L. -/
def OwnsB (w : World) (B g n cap : Nat) (L : List Nat) : Prop := w.ownsRow B 5 1 (.slice (some ⟨g, 0, none⟩) n cap) n (Cells8 L)

theorem dig_num (V j : Nat) (hV : V < 4294967296) : bits .and .u32 ((V : Int) / 2 ^ (28 - 4 * j)) 15 = ((V / 2 ^ (28 - 4 * j) &&& 15 : Nat) : Int) := by
  have e2 : (V : Int) / 2 ^ (28 - 4 * j) = ((V / 2 ^ (28 - 4 * j) : Nat) : Int) := by rw [Int.natCast_ediv, Int.natCast_pow]; rfl
  rw [e2]
  exact u32_and_nat _ 15 (Nat.lt_of_le_of_lt (Nat.div_le_self _ _) hV) (by omega)

set_option maxHeartbeats 400000 in
theorem hex8_any (B g n cap V : Nat) (L : List Nat) (w : World) (hV : V < 4294967296) (hn : n + 8 ≤ cap) (hown : OwnsB w B g n cap L) :
    Calls Try.prog 10 #[.slice (some ⟨g, 0, none⟩) n cap, .int .u32 (V : Int)] w fun e w' =>
      e = .returned (.slice (some ⟨g, 0, none⟩) (n + 8) cap) ∧ OwnsB w' B g (n + 8) cap (L ++ hex8 V) ∧ Below g w w' := by
  obtain ⟨i0, hi, hz0, hz1, hz2⟩ := info_parts info5
  go_enter Try.func10, Try.ntmps10
  go_wp2
  go_loopw [0, 5] (fun v s wr => ∃ j : Nat, j ≤ 8 ∧ s = .int .i64 (28 - 4 * (j : Int)) ∧ v = .slice (some ⟨g, 0, none⟩) (n + j) cap ∧ OwnsB wr B g (n + j) cap (L ++ (List.range j).map (dig V)) ∧ Below g w wr) (fun _ s _ => (4 + intOf s).toNat)
  case atStart => exact ⟨0, by omega, rfl, rfl, by simpa [OwnsB] using hown, Below.refl _ _⟩
  case round =>
    obtain ⟨j, hj, rfl, rfl, hownr, hbel⟩ := hrel
    by_cases hlt : j < 8
    · have Ho := hid hownr
      have Hb := hid hbel
      clear hownr hbel hown
      go_wp2_with fail
      rw [dig_num V j hV]
      refine (hexDigit_any _ _ (and15 _)).mono ?_
      rintro e w1 ⟨rfl, hw1⟩
      subst hw1
      have Hd : Hid (hexd (V / 2 ^ (28 - 4 * j) &&& 15) = dig V j) := rfl
      generalize hexd (V / 2 ^ (28 - 4 * j) &&& 15) = x at *
      have hlt' : n + j + 1 ≤ cap := by omega
      go_wp2_with (at_builtin; refine wpList_append_fits _ rfl (.tmp 10) (.tmp 17) 24 rfl B 5 i0 1 Try.underlying24 hi hz1 g (n + j) cap _ rfl (Ho.out.alloc _) ⟨w1.heap.size, 0, none⟩ 1 1 [.int .u8 (x : Int)] rfl rfl (cell_one_new _ _ _) (by intro u hu; simp at hu; subst hu; rfl) hlt' ?_; intro w2 hown2 hgrow2)
      have hB : g ≤ w1.heap.size := Nat.le_of_lt (Ho.out.lt g rfl).2
      have hown3 : OwnsB w2 B g (n + (j + 1)) cap (L ++ (List.range (j + 1)).map (dig V)) := by
        have e : Cells8 (L ++ (List.range j).map (dig V)) ++ [.int .u8 (x : Int)] = Cells8 (L ++ (List.range (j + 1)).map (dig V)) := by
          rw [Hd.out, List.range_succ, List.map_append, ← List.append_assoc]; simp [Cells8]
        rw [e] at hown2; exact hown2
      have hbel2 : Below g w w2 := (Hb.out.alloc hB _).grown hgrow2 (by simp; omega) (by intro k hk; cases hk; exact Nat.le_refl _)
      have H3 := hid hown3
      have H4 := hid hbel2
      clear hown3 hbel2 hown2 hgrow2
      go_wp2
      go_roundw
      case rel => exact ⟨j + 1, by omega, by go_num, by rw [Nat.add_assoc], H3.out, H4.out⟩
      case measure => simp [intOf]; omega
    · go_wp2
      go_ret
      obtain rfl : j = 8 := by omega
      exact ⟨rfl, hownr, hbel⟩

theorem Cells8_snoc (L : List Nat) (x : Nat) : Cells8 L ++ [.int .u8 (x : Int)] = Cells8 (L ++ [x]) := by simp [Cells8]
theorem Cells8_crlf (L : List Nat) : Cells8 L ++ [.int .u8 13, .int .u8 10] = Cells8 (L ++ [13, 10]) := by simp [Cells8]
theorem Cells8_sp (L : List Nat) : Cells8 L ++ [.int .u8 32] = Cells8 (L ++ [32]) := by simp [Cells8]

/-- What an append of a call's own row leaves. -/
theorem app_own {w w0 w2 : World} {B g n m cap : Nat} {L M : List Nat} {cs : List Value} {o : Obj} (hown : OwnsB w B g n cap L) (hcs : Cells8 L ++ cs = Cells8 M)
    (h2 : w2.ownsRow B 5 1 (.slice (some ⟨g, 0, none⟩) (n + m) cap) (n + m) (Cells8 L ++ cs)) (hg : (w.alloc o).grownBy w2 (some g)) {C : Nat} (hb : Below C w0 w) (hC : C ≤ g) :
    OwnsB w2 B g (n + m) cap M ∧ Below C w0 w2 := by
  rw [hcs] at h2
  have hgw : g < w.heap.size := (hown.lt g rfl).2
  exact ⟨h2, (hb.alloc (by omega) _).grown hg (by simp; omega) (by intro k hk; cases hk; exact hC)⟩

set_option maxHeartbeats 1000000 in
theorem build_any (pre : List Nat) (doc data next : Nat) (ao : Option Addr) (tcap : Nat) (T : List Nat) (w : World) (hp : pre.length = 16) (hdoc : doc < 4294967296) (hdata : data < 4294967296) (hnext : next < 4294967296)
    (hT : T.length ≤ 1048576) (hsrc : 0 < T.length → ∃ b off : Nat, ao = some ⟨b, off, none⟩ ∧ ∀ i, i < T.length → w.cell? ⟨b, off + i, none⟩ = some (.int .u8 ((T.getD i 0 : Nat) : Int))) :
    Calls Try.prog 6 #[.agg (Cells8 pre).toArray, .int .u32 (doc : Int), .int .u32 (data : Int), .int .u32 (next : Int), .slice ao T.length tcap] w fun e w' =>
      ∃ g n, e = .returned (.slice (some ⟨g, 0, none⟩) n n) ∧ n = 47 + T.length ∧ OwnsB w' w.heap.size g n n (headL pre doc data next T) ∧ Below w.heap.size w w' := by
  obtain ⟨i0, hi, hz0, hz1, hz2⟩ := info_parts info5
  have Hsrc := hid hsrc
  clear hsrc
  go_enter Try.func6, Try.ntmps6
  have hbox : ∀ j, j < 16 → (w.alloc (.cells (Cells8 pre).toArray 22)).cell? ⟨w.heap.size, j, none⟩ = some (.int .u8 ((pre.getD j 0 : Nat) : Int)) := by
    intro j hj
    rw [World.cell?_alloc_new]
    have := Cells8_get pre j (by omega)
    simpa using this
  have Hbox := hid hbox
  clear hbox
  go_wp2_with (at_make; refine wpList_make_own _ rfl _ _ 24 rfl w.heap.size 5 i0 (.int .u8 0) 1 Try.underlying24 hi hz0 hz1 _ _ _ (47 + T.length) rfl rfl (by omega) (by rw [hz2]; omega) (by unfold maxLen; omega) (by simp) ?_; intro w1 hown1 hgrow1)
  simp only [World.size_alloc] at hown1
  have hb1 : Below (w.heap.size + 1) (w.alloc (.cells (Cells8 pre).toArray 22)) w1 := (Below.refl _ _).grown hgrow1 (by simp) (by simp)
  clear hgrow1
  go_loopw [11, 12] (fun v s wr => ∃ j : Nat, j ≤ 16 ∧ s = .int .i64 j ∧ v = .slice (some ⟨w.heap.size + 1, 0, none⟩) j (47 + T.length) ∧ OwnsB wr w.heap.size (w.heap.size + 1) j (47 + T.length) (pre.take j) ∧ Below (w.heap.size + 1) (w.alloc (.cells (Cells8 pre).toArray 22)) wr) (fun _ s _ => 16 - (intOf s).toNat)
  case atStart => exact ⟨0, by omega, rfl, rfl, hown1, hb1⟩
  case round =>
    obtain ⟨j, hj, rfl, rfl, hownr, hbel⟩ := hrel
    have Ho := hid hownr
    have Hb := hid hbel
    clear hownr hown1 hb1
    by_cases hlt : j < 16
    · have hcell : wr.cell? ⟨w.heap.size, j, none⟩ = some (.int .u8 ((pre.getD j 0 : Nat) : Int)) := by rw [hbel.cell (by simp)]; exact Hbox.out j hlt
      clear hbel
      have Ht : Hid (pre.take (j + 1) = pre.take j ++ [pre.getD j 0]) := by
        show _ = _
        rw [List.take_add_one]; simp [List.getD, List.getElem?_eq_getElem (show j < pre.length by omega)]
      generalize pre.getD j 0 = x at *
      go_wp2_with (at_builtin; refine wpList_append_fits _ rfl (.tmp 22) (.tmp 26) 24 rfl w.heap.size 5 i0 1 Try.underlying24 hi hz1 (w.heap.size + 1) j (47 + T.length) _ rfl (Ho.out.alloc _) ⟨wr.heap.size, 0, none⟩ 1 1 [.int .u8 (x : Int)] rfl rfl (cell_one_new _ _ _) (by intro u hu; simp at hu; subst hu; rfl) (by omega) ?_; intro w2 hown2 hgrow2)
      obtain ⟨ho3, hb3⟩ := app_own Ho.out (Cells8_snoc _ x) hown2 hgrow2 Hb.out (Nat.le_refl _)
      have H3 := hid ho3
      have H4 := hid hb3
      clear ho3 hb3 hown2 hgrow2
      go_wp2
      go_roundw
      case rel => exact ⟨j + 1, by omega, by go_num, rfl, by rw [Ht.out]; exact H3.out, H4.out⟩
      case measure => simp [intOf]; omega
    · obtain rfl : j = 16 := by omega
      have Hb' : Hid (Below w.heap.size w wr) := ((Below.refl _ _).alloc (Nat.le_refl _) _).trans (hbel.mono (by omega))
      have Ho' : Hid (OwnsB wr w.heap.size (w.heap.size + 1) 16 (47 + T.length) pre) := by
        have := Ho.out; rw [List.take_of_length_le (by omega)] at this; exact this
      clear hbel Hb Ho
      have Ho := Ho'
      have Hb := Hb'
      clear Ho' Hb' Hbox
      go_wp2_with (at_builtin; refine wpList_append_fits _ rfl (.tmp 28) (.tmp 29) 24 rfl w.heap.size 5 i0 1 Try.underlying24 hi hz1 (w.heap.size + 1) 16 (47 + T.length) _ rfl (Ho.out.alloc _) ⟨wr.heap.size, 0, none⟩ 2 2 [.int .u8 13, .int .u8 10] rfl rfl (cell_two_new _ _ _ _) (by intro u hu; simp at hu; rcases hu with rfl | rfl <;> rfl) (by omega) ?_; intro w2 hown2 hgrow2)
      obtain ⟨ho3, hb3⟩ := app_own Ho.out (Cells8_crlf _) hown2 hgrow2 Hb.out (by omega)
      clear hown2 hgrow2
      have Ho' : Hid (OwnsB w2 w.heap.size (w.heap.size + 1) 18 (47 + T.length) (pre ++ [13, 10])) := hid ho3
      have Hb' := hid hb3
      clear ho3 hb3 Ho Hb
      have Ho := Ho'
      have Hb := Hb'
      clear Ho' Hb'
      go_wp2_with fail
      refine (hex8_any w.heap.size (w.heap.size + 1) 18 (47 + T.length) doc _ _ (by omega) (by omega) Ho.out).mono ?_
      rintro e w3 ⟨rfl, ho3, hb3'⟩
      have hb3 := Hb.out.trans (hb3'.mono (by omega))
      clear hb3'
      have Ho' : Hid (OwnsB w3 w.heap.size (w.heap.size + 1) 26 (47 + T.length) ((pre ++ [13, 10]) ++ hex8 doc)) := hid ho3
      have Hb' := hid hb3
      clear ho3 hb3 Ho Hb
      have Ho := Ho'
      have Hb := Hb'
      clear Ho' Hb'
      go_wp2_with (at_builtin; refine wpList_append_fits _ rfl (.tmp 34) (.tmp 35) 24 rfl w.heap.size 5 i0 1 Try.underlying24 hi hz1 (w.heap.size + 1) 26 (47 + T.length) _ rfl (Ho.out.alloc _) ⟨w3.heap.size, 0, none⟩ 1 1 [.int .u8 32] rfl rfl (cell_one_new _ _ _) (by intro u hu; simp at hu; subst hu; rfl) (by omega) ?_; intro w4 hown2 hgrow2)
      obtain ⟨ho3, hb3⟩ := app_own Ho.out (Cells8_sp _) hown2 hgrow2 Hb.out (by omega)
      clear hown2 hgrow2
      have Ho' : Hid (OwnsB w4 w.heap.size (w.heap.size + 1) 27 (47 + T.length) (((pre ++ [13, 10]) ++ hex8 doc) ++ [32])) := hid ho3
      have Hb' := hid hb3
      clear ho3 hb3 Ho Hb
      have Ho := Ho'
      have Hb := Hb'
      clear Ho' Hb'
      go_wp2_with fail
      refine (hex8_any w.heap.size (w.heap.size + 1) 27 (47 + T.length) data _ _ (by omega) (by omega) Ho.out).mono ?_
      rintro e w5 ⟨rfl, ho3, hb3'⟩
      have hb3 := Hb.out.trans (hb3'.mono (by omega))
      clear hb3'
      have Ho' : Hid (OwnsB w5 w.heap.size (w.heap.size + 1) 35 (47 + T.length) ((((pre ++ [13, 10]) ++ hex8 doc) ++ [32]) ++ hex8 data)) := hid ho3
      have Hb' := hid hb3
      clear ho3 hb3 Ho Hb
      have Ho := Ho'
      have Hb := Hb'
      clear Ho' Hb'
      go_wp2_with (at_builtin; refine wpList_append_fits _ rfl (.tmp 40) (.tmp 41) 24 rfl w.heap.size 5 i0 1 Try.underlying24 hi hz1 (w.heap.size + 1) 35 (47 + T.length) _ rfl (Ho.out.alloc _) ⟨w5.heap.size, 0, none⟩ 1 1 [.int .u8 32] rfl rfl (cell_one_new _ _ _) (by intro u hu; simp at hu; subst hu; rfl) (by omega) ?_; intro w6 hown2 hgrow2)
      obtain ⟨ho3, hb3⟩ := app_own Ho.out (Cells8_sp _) hown2 hgrow2 Hb.out (by omega)
      clear hown2 hgrow2
      have Ho' : Hid (OwnsB w6 w.heap.size (w.heap.size + 1) 36 (47 + T.length) (((((pre ++ [13, 10]) ++ hex8 doc) ++ [32]) ++ hex8 data) ++ [32])) := hid ho3
      have Hb' := hid hb3
      clear ho3 hb3 Ho Hb
      have Ho := Ho'
      have Hb := Hb'
      clear Ho' Hb'
      go_wp2_with fail
      refine (hex8_any w.heap.size (w.heap.size + 1) 36 (47 + T.length) next _ _ (by omega) (by omega) Ho.out).mono ?_
      rintro e w7 ⟨rfl, ho3, hb3'⟩
      have hb3 := Hb.out.trans (hb3'.mono (by omega))
      clear hb3'
      have Ho' : Hid (OwnsB w7 w.heap.size (w.heap.size + 1) 44 (47 + T.length) ((((((pre ++ [13, 10]) ++ hex8 doc) ++ [32]) ++ hex8 data) ++ [32]) ++ hex8 next)) := hid ho3
      have Hb' := hid hb3
      clear ho3 hb3 Ho Hb
      have Ho := Ho'
      have Hb := Hb'
      clear Ho' Hb'
      go_wp2_with (first
        | (at_builtin; refine wpList_append_fits _ rfl (.tmp 46) (.tmp 47) 24 rfl w.heap.size 5 i0 1 Try.underlying24 hi hz1 (w.heap.size + 1) 44 (47 + T.length) _ rfl (Ho.out.alloc _) ⟨w7.heap.size, 0, none⟩ 1 1 [.int .u8 32] rfl rfl (cell_one_new _ _ _) (by intro u hu; simp at hu; subst hu; rfl) (by omega) ?_; intro w8 hown2 hgrow2; obtain ⟨ho8, hb8⟩ := app_own Ho.out (Cells8_sp _) hown2 hgrow2 Hb.out (by omega); have Ho8 : Hid (OwnsB w8 w.heap.size (w.heap.size + 1) 45 (47 + T.length) (((((((pre ++ [13, 10]) ++ hex8 doc) ++ [32]) ++ hex8 data) ++ [32]) ++ hex8 next) ++ [32])) := hid ho8; have Hb8 := hid hb8; clear ho8 hb8 hown2 hgrow2)
        | (at_builtin; refine wpList_append_fits _ rfl (.tmp 49) (.tmp 50) 24 rfl w.heap.size 5 i0 1 Try.underlying24 hi hz1 (w.heap.size + 1) 45 (47 + T.length) _ rfl (Ho8.out.alloc _) ⟨w8.heap.size, 0, none⟩ 2 2 [.int .u8 13, .int .u8 10] rfl rfl (cell_two_new _ _ _ _) (by intro u hu; simp at hu; rcases hu with rfl | rfl <;> rfl) (by omega) ?_; intro w9 hown2 hgrow2; obtain ⟨ho9, hb9⟩ := app_own Ho8.out (Cells8_crlf _) hown2 hgrow2 Hb8.out (by omega); have Ho9 : Hid (OwnsB w9 w.heap.size (w.heap.size + 1) 47 (47 + T.length) ((((((((pre ++ [13, 10]) ++ hex8 doc) ++ [32]) ++ hex8 data) ++ [32]) ++ hex8 next) ++ [32]) ++ [13, 10])) := hid ho9; have Hb9 := hid hb9; clear ho9 hb9 hown2 hgrow2))
      have HLl : Hid ((((((((pre ++ [13, 10]) ++ hex8 doc) ++ [32]) ++ hex8 data) ++ [32]) ++ hex8 next) ++ [32]) ++ [13, 10] = headL pre doc data next []) := by show _ = _; simp [headL]
      generalize (((((((pre ++ [13, 10]) ++ hex8 doc) ++ [32]) ++ hex8 data) ++ [32]) ++ hex8 next) ++ [32]) ++ [13, 10] = L0 at *
      clear Ho8 Hb8 Ho Hb
      go_loopw [11, 13] (fun v s wr => ∃ j : Nat, j ≤ T.length ∧ s = .int .i64 j ∧ v = .slice (some ⟨w.heap.size + 1, 0, none⟩) (47 + j) (47 + T.length) ∧ OwnsB wr w.heap.size (w.heap.size + 1) (47 + j) (47 + T.length) (L0 ++ T.take j) ∧ Below w.heap.size w wr) (fun _ s _ => T.length - (intOf s).toNat)
      case atStart => exact ⟨0, by omega, rfl, rfl, by have := Ho9.out; simpa using this, Hb9.out⟩
      case round =>
        obtain ⟨j, hj, rfl, rfl, hownr, hbel⟩ := hrel
        have Ho := hid hownr
        have Hb := hid hbel
        clear hownr
        by_cases hlt : j < T.length
        · obtain ⟨b, off, rfl, hc⟩ := Hsrc.out (by omega)
          have hcj := hc j hlt
          have hcell : wr.cell? ⟨b, off + j, none⟩ = some (.int .u8 ((T.getD j 0 : Nat) : Int)) := by rw [hbel.cell (World.block_lt_of_cell? _ _ hcj)]; exact hcj
          clear hbel hcj hc
          have Ht : Hid (T.take (j + 1) = T.take j ++ [T.getD j 0]) := by
            show _ = _
            rw [List.take_add_one]; simp [List.getD, List.getElem?_eq_getElem hlt]
          generalize T.getD j 0 = x at *
          go_wp2_with (at_builtin; refine wpList_append_fits _ rfl (.tmp 58) (.tmp 63) 24 rfl w.heap.size 5 i0 1 Try.underlying24 hi hz1 (w.heap.size + 1) (47 + j) (47 + T.length) _ rfl (Ho.out.alloc _) ⟨wr.heap.size, 0, none⟩ 1 1 [.int .u8 (x : Int)] rfl rfl (cell_one_new _ _ _) (by intro u hu; simp at hu; subst hu; rfl) (by omega) ?_; intro w2 hown2 hgrow2)
          obtain ⟨ho3, hb3⟩ := app_own Ho.out (Cells8_snoc _ x) hown2 hgrow2 Hb.out (by omega)
          have H3 := hid ho3
          have H4 := hid hb3
          clear ho3 hb3 hown2 hgrow2
          go_wp2
          go_roundw
          case rel => exact ⟨j + 1, by omega, by go_num, rfl, by rw [Ht.out, ← List.append_assoc]; exact H3.out, H4.out⟩
          case measure => simp [intOf]; omega
        · obtain rfl : j = T.length := by omega
          go_wp2
          go_ret
          refine ⟨_, _, rfl, rfl, ?_, Hb.out⟩
          have h := Ho.out
          rw [List.take_of_length_le (Nat.le_refl _), HLl.out] at h
          have e : headL pre doc data next [] ++ T = headL pre doc data next T := by simp [headL]
          rw [e] at h
          exact h
end Go.Proofs.Qxb6628685a
