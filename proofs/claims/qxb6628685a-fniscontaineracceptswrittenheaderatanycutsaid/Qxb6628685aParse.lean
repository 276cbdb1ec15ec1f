import Derived.Test.Qxb6628685aBuild
namespace Go.Proofs.Qxb6628685a
open Go.RowKit

def hdrOk (D : Nat → Nat) : Bool := (List.range 31).all (fun q => allowed (16 + q) (D q))
theorem hdrOk_iff (D : Nat → Nat) : hdrOk D = true ↔ ∀ q, q < 31 → allowed (16 + q) (D q) = true := by simp [hdrOk]
theorem hdrOk_no (D : Nat → Nat) (q : Nat) (hq : q < 31) (h : allowed (16 + q) (D q) = false) : hdrOk D = false := by
  rw [Bool.eq_false_iff]; intro hh; rw [hdrOk_iff] at hh; have := hh q hq; rw [h] at this; cases this

def ParsePost (ok : Bool) (w : World) (e : Ending) (w' : World) : Prop :=
  (∃ x y z : Int, e = .returned (.tuple #[.agg #[.int .i64 x, .int .i64 y, .int .i64 z], .bool ok])) ∧ Below w.heap.size w w'

set_option maxHeartbeats 1000000 in
theorem parse_bad (b off cap : Nat) (D : Nat → Nat) (w : World) (hc : ∀ j, j < 31 → w.cell? ⟨b, off + j, none⟩ = some (.int .u8 ((D j : Nat) : Int)))
    (hbad : ¬ (D 0 = 13 ∧ D 1 = 10 ∧ D 29 = 13 ∧ D 30 = 10)) :
    Calls Try.prog 11 #[.slice (some ⟨b, off, none⟩) 31 cap] w fun e w' => ParsePost false w e w' := by
  have c0 : w.cell? ⟨b, off, none⟩ = some (.int .u8 ((D 0 : Nat) : Int)) := hc 0 (by omega)
  have c1 := hc 1 (by omega)
  have c29 := hc 29 (by omega)
  have c30 := hc 30 (by omega)
  have hb := World.block_lt_of_cell? _ _ c0
  have hne : b ≠ w.heap.size := Nat.ne_of_lt hb
  clear hc
  generalize D 0 = d0 at *
  generalize D 1 = d1 at *
  generalize D 29 = d29 at *
  generalize D 30 = d30 at *
  have H := hid hbad
  clear hbad
  have hcase : ((d0 : Int) != 13) = true ∨ (((d0 : Int) != 13) = false ∧ ((d1 : Int) != 10) = true) ∨ (((d0 : Int) != 13) = false ∧ ((d1 : Int) != 10) = false ∧ ((d29 : Int) != 13) = true) ∨ (((d0 : Int) != 13) = false ∧ ((d1 : Int) != 10) = false ∧ ((d29 : Int) != 13) = false ∧ ((d30 : Int) != 10) = true) := by
    simp only [bne_iff_ne, bne_eq_false_iff_eq]
    have := H.out
    omega
  clear H
  rcases hcase with h0 | ⟨h0, h1⟩ | ⟨h0, h1, h2⟩ | ⟨h0, h1, h2, h3⟩
  · go_enter Try.func11, Try.ntmps11
    go_wp2
    exact bodyPost_ret (v := .tuple #[.agg #[.int .i64 0, .int .i64 0, .int .i64 0], .bool false]) (by simp [results, Try.results11, go_sem]) rfl ⟨⟨0, 0, 0, rfl⟩, (Below.refl _ _).alloc (Nat.le_refl _) _⟩
  · go_enter Try.func11, Try.ntmps11
    go_wp2
    exact bodyPost_ret (v := .tuple #[.agg #[.int .i64 0, .int .i64 0, .int .i64 0], .bool false]) (by simp [results, Try.results11, go_sem]) rfl ⟨⟨0, 0, 0, rfl⟩, (Below.refl _ _).alloc (Nat.le_refl _) _⟩
  · go_enter Try.func11, Try.ntmps11
    go_wp2
    exact bodyPost_ret (v := .tuple #[.agg #[.int .i64 0, .int .i64 0, .int .i64 0], .bool false]) (by simp [results, Try.results11, go_sem]) rfl ⟨⟨0, 0, 0, rfl⟩, (Below.refl _ _).alloc (Nat.le_refl _) _⟩
  · go_enter Try.func11, Try.ntmps11
    go_wp2
    exact bodyPost_ret (v := .tuple #[.agg #[.int .i64 0, .int .i64 0, .int .i64 0], .bool false]) (by simp [results, Try.results11, go_sem]) rfl ⟨⟨0, 0, 0, rfl⟩, (Below.refl _ _).alloc (Nat.le_refl _) _⟩

/-- What the loops of parseBlockHeader keep: the result's variable in block B is still zero; three numbers in block B + 1; nothing old has turned. -/
def PInv (B : Nat) (w wr : World) : Prop :=
  Below B w wr ∧ B + 2 ≤ wr.heap.size ∧ (∀ j, j < 3 → wr.cell? ⟨B, j, none⟩ = some (.int .i64 0)) ∧ (∀ j, wr.frozen? ⟨B, j, none⟩ = false) ∧ (∀ j, j < 3 → ∃ a : Int, wr.cell? ⟨B + 1, j, none⟩ = some (.int .i64 a)) ∧ (∀ j, wr.frozen? ⟨B + 1, j, none⟩ = false)

theorem PInv_set {B : Nat} {w wr : World} (h : PInv B w wr) (i : Nat) (hi : i < 3) (x : Int) : PInv B w (wr.setCell ⟨B + 1, i, none⟩ (.int .i64 x)) := by
  obtain ⟨h1, h2, h3, h4, h5, h6⟩ := h
  refine ⟨h1.setCell (by simp) _, by simpa using h2, ?_, ?_, ?_, ?_⟩
  · intro j hj
    rw [World.cell?_of_block (w := wr) (Below.heap_setCell _ _ _ _ (by simp))]; exact h3 j hj
  · intro j
    rw [World.frozen?_of_block (w := wr) (Below.heap_setCell _ _ _ _ (by simp))]; exact h4 j
  · intro j hj
    by_cases hij : i = j
    · subst hij
      obtain ⟨a, ha⟩ := h5 i hi
      exact ⟨x, World.cell?_setCell_same _ _ _ ha⟩
    · rw [World.cell?_setCell_other _ _ _ _ (by intro hh; cases hh; exact hij rfl)]; exact h5 j hj
  · intro j
    rw [World.frozen?_setCell]; exact h6 j

theorem allowed_sp (i c : Nat) (hi : i < 3) : allowed (16 + (10 + 9 * i)) c = decide (c = 32) := by
  have : i = 0 ∨ i = 1 ∨ i = 2 := by omega
  rcases this with rfl | rfl | rfl <;> rfl
theorem allowed_hex (i j c : Nat) (hi : i < 3) (hj : j < 8) : allowed (16 + (2 + 9 * i + j)) c = isHex c := by
  have h1 : i = 0 ∨ i = 1 ∨ i = 2 := by omega
  have h2 : j = 0 ∨ j = 1 ∨ j = 2 ∨ j = 3 ∨ j = 4 ∨ j = 5 ∨ j = 6 ∨ j = 7 := by omega
  rcases h1 with rfl | rfl | rfl <;> rcases h2 with rfl | rfl | rfl | rfl | rfl | rfl | rfl | rfl <;> rfl

set_option maxHeartbeats 1000000 in
theorem parse_main (b off cap : Nat) (D : Nat → Nat) (w : World) (hD : ∀ j, D j < 256) (hcap : 31 ≤ cap) (hc : ∀ j, j < 31 → w.cell? ⟨b, off + j, none⟩ = some (.int .u8 ((D j : Nat) : Int)))
    (h0 : D 0 = 13) (h1 : D 1 = 10) (h29 : D 29 = 13) (h30 : D 30 = 10) :
    Calls Try.prog 11 #[.slice (some ⟨b, off, none⟩) 31 cap] w fun e w' => ParsePost (hdrOk D) w e w' := by
  have c0 : w.cell? ⟨b, off, none⟩ = some (.int .u8 13) := by have := hc 0 (by omega); rw [h0] at this; exact this
  have c1 : w.cell? ⟨b, off + 1, none⟩ = some (.int .u8 10) := by have := hc 1 (by omega); rw [h1] at this; exact this
  have c29 : w.cell? ⟨b, off + 29, none⟩ = some (.int .u8 13) := by have := hc 29 (by omega); rw [h29] at this; exact this
  have c30 : w.cell? ⟨b, off + 30, none⟩ = some (.int .u8 10) := by have := hc 30 (by omega); rw [h30] at this; exact this
  have hb := World.block_lt_of_cell? _ _ c0
  have hne : b ≠ w.heap.size := Nat.ne_of_lt hb
  have Hc := hid hc
  have HD := hid hD
  clear hc hD
  have H0 := hid h0
  have H1 := hid h1
  have H29 := hid h29
  have H30 := hid h30
  clear h0 h1 h29 h30
  go_enter Try.func11, Try.ntmps11
  go_wp2
  go_loopw [38] (fun c wr => ∃ i : Nat, i ≤ 3 ∧ c = .int .i64 i ∧ PInv w.heap.size w wr ∧ ∀ q, 2 ≤ q → q < 2 + 9 * i → allowed (16 + q) (D q) = true) (fun c _ => 3 - (intOf c).toNat)
  case atStart =>
    refine ⟨0, by omega, rfl, ⟨((Below.refl _ _).alloc (Nat.le_refl _) _).alloc (by simp) _, by simp, ?_, ?_, ?_, ?_⟩, fun q h1 h2 => by omega⟩
    · intro j hj
      have : j = 0 ∨ j = 1 ∨ j = 2 := by omega
      rcases this with rfl | rfl | rfl <;> simp
    · intro j; simp
    · intro j hj
      have : j = 0 ∨ j = 1 ∨ j = 2 := by omega
      rcases this with rfl | rfl | rfl <;> exact ⟨0, by simp⟩
    · intro j; simp
  case round =>
    obtain ⟨i, hi3, rfl, hinv, hall⟩ := hrel
    have Hall := hid hall
    clear hall
    have HI := hid hinv
    obtain ⟨hbel, hsz, hcz, hfz, hcf, hff⟩ := hinv
    have z0 := hcz 0 (by omega)
    have z1 := hcz 1 (by omega)
    have z2 := hcz 2 (by omega)
    have fz0 := hfz 0
    have fz1 := hfz 1
    have fz2 := hfz 2
    have hold : ∀ j, j < 31 → wr.cell? ⟨b, off + j, none⟩ = some (.int .u8 ((D j : Nat) : Int)) := fun j hj => by rw [hbel.cell (by exact hb)]; exact Hc.out j hj
    have Hold := hid hold
    have Hcf := hid hcf
    have Hff := hid hff
    clear hold hcz hfz hbel hcf hff c0 c1 c29 c30
    by_cases hlt : i < 3
    · have il : (i : Int) < 3 := by omega
      have csp := Hold.out (2 + 9 * i + 8) (by omega)
      rw [show 2 + 9 * i + 8 = 10 + 9 * i by omega] at csp
      by_cases hsp : D (10 + 9 * i) = 32
      · rw [hsp] at csp
        have csp' : wr.cell? ⟨b, off + (2 + 9 * i + 8), none⟩ = some (.int .u8 32) := by rw [show 2 + 9 * i + 8 = 10 + 9 * i by omega]; exact csp
        clear csp
        have Hsp := hid hsp
        clear hsp z0 z1 z2 fz0 fz1 fz2
        obtain ⟨wo, rfl⟩ : ∃ wo : World, wo = wr := ⟨_, rfl⟩
        go_wp2
        clear csp'
        rw [show 2 + 9 * i + 8 - (2 + 9 * i) = 8 by omega]
        go_loopw [57] (fun c wr => ∃ j : Nat, j ≤ 8 ∧ c = .int .i64 j ∧ PInv w.heap.size w wr ∧ ∀ q, 2 + 9 * i ≤ q → q < 2 + 9 * i + j → allowed (16 + q) (D q) = true) (fun c _ => 8 - (intOf c).toNat)
        case atStart => exact ⟨0, by omega, rfl, HI.out, fun q h1 h2 => by omega⟩
        case round =>
          obtain ⟨j, hj8, rfl, hinv2, hall2⟩ := hrel
          have Hall2 := hid hall2
          clear hall2 Hold HI Hcf Hff
          have HI := hid hinv2
          by_cases hjt : j < 8
          · obtain ⟨hbel, hsz2, hcz, hfz, hcf, hff⟩ := hinv2
            have z0 := hcz 0 (by omega)
            have z1 := hcz 1 (by omega)
            have z2 := hcz 2 (by omega)
            have fz0 := hfz 0
            have fz1 := hfz 1
            have fz2 := hfz 2
            obtain ⟨a, hca⟩ := hcf i hlt
            have hfa := hff i
            have hcj : wr.cell? ⟨b, off + (2 + 9 * i) + j, none⟩ = some (.int .u8 ((D (2 + 9 * i + j) : Nat) : Int)) := by
              rw [hbel.cell (by exact hb), Nat.add_assoc]; exact Hc.out _ (by omega)
            have hd := HD.out (2 + 9 * i + j)
            clear hcz hfz hcf hff hbel
            cases hx : isHex (D (2 + 9 * i + j)) with
            | true =>
              have Hx := hid hx
              have hyes := hid (hexValue_yes (D (2 + 9 * i + j)) wr hd hx)
              clear hx
              generalize hdd : D (2 + 9 * i + j) = d at *
              have Hdd := hid hdd
              clear hdd
              go_wp2_with fail
              refine hyes.out.mono ?_
              rintro e w' ⟨⟨v, hv, rfl⟩, hw'⟩
              subst hw'
              have hvb : (0 : Int) ≤ (v : Int) := by omega
              go_wp2
              go_roundw
              case rel =>
                have hq : ∀ q, 2 + 9 * i ≤ q → q < 2 + 9 * i + (j + 1) → allowed (16 + q) (D q) = true := fun q h1 h2 => by
                  by_cases c1 : q < 2 + 9 * i + j
                  · exact Hall2.out q h1 c1
                  · obtain rfl : q = 2 + 9 * i + j := by omega
                    rw [allowed_hex i j _ hlt hjt, Hdd.out]; exact Hx.out
                exact ⟨j + 1, by omega, by go_num, PInv_set HI.out i hlt _, hq⟩
              case measure => simp [intOf]; omega
            | false =>
              have Hno := hid (hdrOk_no D (2 + 9 * i + j) (by omega) (by rw [allowed_hex i j _ hlt hjt]; exact hx))
              have hno := hid (hexValue_no (D (2 + 9 * i + j)) wr hd hx)
              clear hx
              generalize hdd : D (2 + 9 * i + j) = d at *
              clear hdd
              go_wp2_with fail
              refine hno.out.mono ?_
              rintro e w' ⟨rfl, hw'⟩
              subst hw'
              go_wp2
              rw [Hno.out]
              exact bodyPost_ret (v := .tuple #[.agg #[.int .i64 0, .int .i64 0, .int .i64 0], .bool false]) (by simp [results, Try.results11, go_sem, z0, z1, z2]) rfl ⟨⟨0, 0, 0, rfl⟩, ((HI.out.1.setCell (Nat.le_refl _) _).setCell (Nat.le_refl _) _).setCell (Nat.le_refl _) _⟩
          · obtain rfl : j = 8 := by omega
            clear hinv2
            go_wp2
            go_roundw
            case rel => exact ⟨i + 1, by omega, by go_num, HI.out, fun q h1 h2 => by
              by_cases c1 : q < 2 + 9 * i
              · exact Hall.out q h1 c1
              · by_cases c2 : q < 2 + 9 * i + 8
                · exact Hall2.out q (by omega) c2
                · obtain rfl : q = 10 + 9 * i := by omega
                  rw [allowed_sp i _ hlt, Hsp.out]; rfl⟩
            case measure => simp [intOf]; omega
      · have hspb : (((D (10 + 9 * i) : Nat) : Int) != 32) = true := by rw [bne_iff_ne]; omega
        have hno := hid (hdrOk_no D (10 + 9 * i) (by omega) (by rw [allowed_sp i _ hlt]; simpa using hsp))
        have csp' : wr.cell? ⟨b, off + (2 + 9 * i + 8), none⟩ = some (.int .u8 ((D (10 + 9 * i) : Nat) : Int)) := by rw [show 2 + 9 * i + 8 = 10 + 9 * i by omega]; exact csp
        clear csp
        generalize D (10 + 9 * i) = x at *
        go_wp2
        rw [hno.out]
        exact bodyPost_ret (v := .tuple #[.agg #[.int .i64 0, .int .i64 0, .int .i64 0], .bool false]) (by simp [results, Try.results11, go_sem, z0, z1, z2]) rfl ⟨⟨0, 0, 0, rfl⟩, ((HI.out.1.setCell (Nat.le_refl _) _).setCell (Nat.le_refl _) _).setCell (Nat.le_refl _) _⟩
    · obtain ⟨a0, ha0⟩ := Hcf.out 0 (by omega)
      obtain ⟨a1, ha1⟩ := Hcf.out 1 (by omega)
      obtain ⟨a2, ha2⟩ := Hcf.out 2 (by omega)
      have Hyes : Hid (hdrOk D = true) := by
        show _ = _
        rw [hdrOk_iff]
        intro q hq
        by_cases q0 : q = 0
        · subst q0; rw [H0.out]; rfl
        by_cases q1 : q = 1
        · subst q1; rw [H1.out]; rfl
        by_cases q29 : q = 29
        · subst q29; rw [H29.out]; rfl
        by_cases q30 : q = 30
        · subst q30; rw [H30.out]; rfl
        exact Hall.out q (by omega) (by omega)
      clear Hcf Hff Hold Hc
      go_wp2
      rw [Hyes.out]
      exact bodyPost_ret (v := .tuple #[.agg #[.int .i64 a0, .int .i64 a1, .int .i64 a2], .bool true]) (by simp [results, Try.results11, go_sem, z0, z1, z2]) rfl ⟨⟨a0, a1, a2, rfl⟩, ((HI.out.1.setCell (Nat.le_refl _) _).setCell (Nat.le_refl _) _).setCell (Nat.le_refl _) _⟩

theorem parse_any (b off cap : Nat) (D : Nat → Nat) (w : World) (hD : ∀ j, D j < 256) (hcap : 31 ≤ cap) (hc : ∀ j, j < 31 → w.cell? ⟨b, off + j, none⟩ = some (.int .u8 ((D j : Nat) : Int))) :
    Calls Try.prog 11 #[.slice (some ⟨b, off, none⟩) 31 cap] w fun e w' => ParsePost (hdrOk D) w e w' := by
  by_cases h : D 0 = 13 ∧ D 1 = 10 ∧ D 29 = 13 ∧ D 30 = 10
  · exact parse_main b off cap D w hD hcap hc h.1 h.2.1 h.2.2.1 h.2.2.2
  · have e : hdrOk D = false := by
      by_cases h0 : D 0 = 13
      · by_cases h1 : D 1 = 10
        · by_cases h2 : D 29 = 13
          · exact hdrOk_no D 30 (by omega) (by simp [allowed]; exact fun h3 => h ⟨h0, h1, h2, h3⟩)
          · exact hdrOk_no D 29 (by omega) (by simp [allowed]; exact h2)
        · exact hdrOk_no D 1 (by omega) (by simp [allowed]; exact h1)
      · exact hdrOk_no D 0 (by omega) (by simp [allowed]; exact h0)
    rw [e]
    exact parse_bad b off cap D w hc h
end Go.Proofs.Qxb6628685a
