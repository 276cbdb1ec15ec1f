import Derived.Test.Qxb6628651aBitWalk
import Derived.Test.Qxb6628651aJoin
import Derived.Deep.DeepCutAuto
import Derived.WalkSmall
namespace Go.Proofs.Qxb6628651a
open Go.RowKit

theorem hid {p : Prop} (h : p) : Hid p := h

/-- A slice of bytes that came in: nil, or cells. -/
def Src (w : World) (ao : Option Addr) (cap : Nat) (L : List Nat) : Prop :=
  (ao = none ∧ cap = 0 ∧ L = []) ∨ ∃ ad, ao = some ad ∧ ∀ i, i < L.length → w.cell? (ad.add i) = some (.int .u8 ((L.getD i 0 : Nat) : Int))

/-- The call's own copy of it. -/
def Own (w : World) (v : Value) (L : List Nat) : Prop :=
  ∃ ao cap, v = .slice ao L.length cap ∧ L.length ≤ cap ∧ cap ≤ maxLen ∧ Holds8 w ao L ∧ (ao = none → cap = 0 ∧ L = []) ∧ ∀ ad, ao = some ad → ∃ g, ad = ⟨g, 0, none⟩ ∧ g < w.heap.size

theorem Own_row {w : World} {B g : Nat} {L : List Nat} (h : w.ownsRow B 5 1 (.slice (some ⟨g, 0, none⟩) L.length L.length) L.length (Cells8 L)) (hm : L.length ≤ maxLen) :
    Own w (.slice (some ⟨g, 0, none⟩) L.length L.length) L :=
  ⟨_, _, rfl, Nat.le_refl _, hm, fun _ => ⟨g, rfl, fun i hi => by rw [h.cellAt i (by omega)]; exact Cells8_get L i hi⟩, by simp, fun ad had => by cases had; exact ⟨g, rfl, (h.lt g rfl).2⟩⟩
theorem Own_nil (w : World) : Own w (.slice none 0 0) [] :=
  ⟨none, 0, rfl, by simp, by unfold maxLen; omega, fun h => by simp at h, by simp, by simp⟩

theorem Own_later {w w' : World} {v : Value} {L : List Nat} (h : Own w v L) (hb : Below w.heap.size w w') : Own w' v L := by
  obtain ⟨ao, cap, rfl, h1, h2, h3, h4, h5⟩ := h
  refine ⟨ao, cap, rfl, h1, h2, ?_, h4, ?_⟩
  · intro hp
    obtain ⟨b, rfl, hc⟩ := h3 hp
    exact ⟨b, rfl, fun i hi => by rw [hb.cell (World.block_lt_of_cell? _ _ (hc i hi))]; exact hc i hi⟩
  · intro ad had
    obtain ⟨g, hg, hl⟩ := h5 ad had
    exact ⟨g, hg, Nat.lt_of_lt_of_le hl hb.size⟩

theorem pack_n (ao : Option Addr) (cap n : Nat) (L : List Nat) (w : World) (hn : L.length = n) (hL : L.length ≤ 2000000) (hL8 : ∀ i, L.getD i 0 < 256)
    (hao : Holds8 w ao L) (hlc : n ≤ cap) (hcm : cap ≤ maxLen) :
    Calls Try.prog 6 #[.slice ao n cap] w fun e w' => PackPost (padded L) w.heap.size w e w' := by
  subst hn
  exact pack_any ao cap L w hL hL8 hao hlc hcm

theorem padded_append (A B : List Nat) (h : A.length % 8 = 0) : padded (A ++ B) = A ++ padded B := by
  unfold padded
  have e : ((A ++ B).length % 8 = 7) ↔ (B.length % 8 = 7) := by simp; omega
  by_cases hb : B.length % 8 = 7
  · rw [if_pos (e.2 hb), if_pos hb, List.append_assoc]
  · rw [if_neg (fun h => hb (e.1 h)), if_neg hb]
theorem padded_length (B : List Nat) : (padded B).length = if B.length % 8 = 7 then B.length + 1 else B.length := by
  unfold padded; split <;> simp
theorem padded8 (A : List Nat) (h : A.length % 8 = 0) : padded A = A := pad_no (by omega)
theorem append8 (A B : List Nat) (hA : ∀ i, A.getD i 0 < 256) (hB : ∀ i, B.getD i 0 < 256) : ∀ i, (A ++ B).getD i 0 < 256 := by
  intro i
  by_cases h : i < A.length
  · rw [getD_left A B i h]; exact hA i
  · obtain ⟨j, rfl⟩ : ∃ j, i = A.length + j := ⟨i - A.length, by omega⟩
    rw [getD_right]; exact hB j

set_option maxRecDepth 100000 in
set_option maxHeartbeats 400000 in
theorem join_any (ao bo : Option Addr) (ca cb : Nat) (A B : List Nat) (w : World) (hA8 : ∀ i, A.getD i 0 < 256) (hB8 : ∀ i, B.getD i 0 < 256) (hA : A.length % 8 = 0) (hAl : A.length ≤ 1048576) (hBl : A.length + B.length ≤ 1048576)
    (sa : Src w ao ca A) (sb : Src w bo cb B) :
    Calls Try.prog 4 #[.slice ao A.length ca, .slice bo B.length cb] w fun e w' => e = .returned (.bool true) ∧ Below w.heap.size w w' := by
  obtain ⟨i0, hi, hz0, hz1, hz2⟩ := info_parts info5
  have hA' : ((A.length : Int) % 8 != 0) = false := by rw [bne_eq_false_iff_eq]; omega
  have hma : A.length ≤ maxLen := by unfold maxLen; omega
  have hmb : B.length ≤ maxLen := by unfold maxLen; omega
  go_enter Try.func4, Try.ntmps4
  go_upto_if 35 with (go_at_call 7; go_in)
  go_cut [0] (fun v wx => Own wx v A ∧ Below w.heap.size w wx)
  case first =>
    rcases sa with ⟨rfl, rfl, rfl⟩ | ⟨ad, rfl, hca⟩
    · go_wp2
      go_meet
      exact ⟨Own_nil _, Below.refl _ _⟩
    · go_wp2_with (at_make; refine wpList_make_full _ rfl _ _ 22 rfl w.heap.size 5 i0 (.int .u8 0) 1 Try.underlying22 hi hz0 hz1 _ _ _ _ A.length rfl rfl (by omega) (by omega) (by rw [hz2]; omega) (by unfold maxLen; omega) (by simp) ?_; intro w1 hown hgrow)
      rw [Cells8_zero] at hown
      have hbel1 : Below w.heap.size w w1 := (Below.refl _ _).grown hgrow (Nat.le_refl _) (by simp)
      obtain ⟨w2, hcp, hown2, hbel2⟩ := copy_row (sCap := ca) hown rfl ad (fun i hi => by rw [hbel1.cell (World.block_lt_of_cell? _ _ (hca i hi))]; exact hca i hi) hbel1 (Nat.le_refl _)
      rw [hcp]
      go_wp2
      go_meet
      exact ⟨Own_row hown2 hma, hbel2⟩
  case rest =>
    obtain ⟨ownA, hbel⟩ := hcut
    obtain ⟨wo, rfl⟩ : ∃ wo : World, wo = wc := ⟨_, rfl⟩
    have hwo := hbel.size
    go_upto_if 44 with fail
    go_cut [1] (fun v wx => Own wx v B ∧ Below wo.heap.size wo wx)
    case first =>
      rcases sb with ⟨rfl, rfl, rfl⟩ | ⟨ad, rfl, hcb⟩
      · go_wp2
        go_meet
        exact ⟨Own_nil _, Below.refl _ _⟩
      · have HA := hid ownA
        clear ownA
        go_wp2_with (at_make; refine wpList_make_full _ rfl _ _ 22 rfl wo.heap.size 5 i0 (.int .u8 0) 1 Try.underlying22 hi hz0 hz1 _ _ _ _ B.length rfl rfl (by omega) (by omega) (by rw [hz2]; omega) (by unfold maxLen; omega) (by simp) ?_; intro w1 hown hgrow)
        rw [Cells8_zero] at hown
        have hbel1 : Below wo.heap.size wo w1 := (Below.refl _ _).grown hgrow (Nat.le_refl _) (by simp)
        obtain ⟨w2, hcp, hown2, hbel2⟩ := copy_row (sCap := cb) hown rfl ad (fun i hi => by rw [(hbel.trans (hbel1.mono hwo)).cell (World.block_lt_of_cell? _ _ (hcb i hi))]; exact hcb i hi) hbel1 (Nat.le_refl _)
        rw [hcp]
        go_wp2
        go_meet
        exact ⟨Own_row hown2 hmb, hbel2⟩
    case rest =>
      obtain ⟨ownB, hbelB⟩ := hcut
      have ownA' := Own_later ownA hbelB
      have hbelw : Below w.heap.size w wc := hbel.trans (hbelB.mono hwo)
      have hwc := hbelw.size
      clear ownA hbel hbelB sa sb
      obtain ⟨xo, xc, rfl, hx1, hx2, hx3, hx4, hx5⟩ := ownA'
      obtain ⟨yo, yc, rfl, hy1, hy2, hy3, hy4, hy5⟩ := ownB
      have hlen : A.length + B.length ≤ 1048576 := hBl
      have cA : ∀ (W : World), Below wc.heap.size wc W → ∀ ad, xo = some ad → ∀ j u, (Cells8 A)[j]? = some u → W.cell? (ad.add j) = some u := by
        intro W hW ad had j u hj
        have hjl : j < A.length := by have := (List.getElem?_eq_some_iff.1 hj).1; rwa [Cells8_length] at this
        obtain ⟨b, hb, hc⟩ := hx3 (by omega)
        rw [hb] at had; cases had
        rw [Addr.add_lit, Nat.zero_add, hW.cell (World.block_lt_of_cell? _ _ (hc j hjl)), hc j hjl, ← Cells8_get A j hjl]; exact hj
      have cB : ∀ (W : World), Below wc.heap.size wc W → ∀ ad, yo = some ad → ∀ j u, (Cells8 B)[j]? = some u → W.cell? (ad.add j) = some u := by
        intro W hW ad had j u hj
        have hjl : j < B.length := by have := (List.getElem?_eq_some_iff.1 hj).1; rwa [Cells8_length] at this
        obtain ⟨b, hb, hc⟩ := hy3 (by omega)
        rw [hb] at had; cases had
        rw [Addr.add_lit, Nat.zero_add, hW.cell (World.block_lt_of_cell? _ _ (hc j hjl)), hc j hjl, ← Cells8_get B j hjl]; exact hj
      have HcA := hid cA
      have HcB := hid cB
      have Hx3 := hid hx3
      have Hy3 := hid hy3
      have Hx4 : Hid (xo = none → A.length = 0 ∧ xc = 0) := fun h => ⟨by rw [(hx4 h).2]; rfl, (hx4 h).1⟩
      have Hy4 : Hid (yo = none → B.length = 0 ∧ yc = 0) := fun h => ⟨by rw [(hy4 h).2]; rfl, (hy4 h).1⟩
      clear cA cB hx3 hy3 hx4 hy4 hx5 hy5
      have HB8 := hid hB8
      have HA8 := hid hA8
      have Hbw := hid hbelw
      clear hB8 hA8 hbelw
      go_wp2_with (first
        | (at_make; refine wpList_make_own _ rfl _ _ 22 rfl w.heap.size 5 i0 (.int .u8 0) 1 Try.underlying22 hi hz0 hz1 _ _ _ (A.length + B.length) rfl rfl (by omega) (by rw [hz2]; omega) (by unfold maxLen; omega) (by omega) ?_; intro w1 hown1 hgrow1; have hb1 : Below wc.heap.size wc w1 := (Below.refl _ _).grown hgrow1 (Nat.le_refl _) (by simp))
        | (at_builtin; refine wpList_append_fits_any _ rfl (.tmp 58) (.tmp 59) 22 rfl w.heap.size 5 i0 1 Try.underlying22 hi hz1 wc.heap.size 0 (A.length + B.length) [] rfl hown1 xo A.length xc (Cells8 A) rfl (by simp [Cells8_length]) Hx4.out (HcA.out _ hb1) (Cells8_one A) (by omega) ?_; intro w2 hown2 hgrow2; simp only [Nat.zero_add, List.nil_append] at hown2; have hb2 : Below wc.heap.size wc w2 := hb1.grown hgrow2 hb1.size (by intro k hk; cases hk; exact Nat.le_refl _))
        | (at_builtin; refine wpList_append_fits_any _ rfl (.tmp 61) (.tmp 62) 22 rfl w.heap.size 5 i0 1 Try.underlying22 hi hz1 wc.heap.size A.length (A.length + B.length) (Cells8 A) rfl hown2 yo B.length yc (Cells8 B) rfl (by simp [Cells8_length]) Hy4.out (HcB.out _ hb2) (Cells8_one B) (by omega) ?_; intro w3 hown3 hgrow3; have hb3 : Below wc.heap.size wc w3 := hb2.grown hgrow3 hb2.size (by intro k hk; cases hk; exact Nat.le_refl _)))
      have HwAB : Holds8 w3 (some ⟨wc.heap.size, 0, none⟩) (A ++ B) := fun _ => ⟨_, rfl, fun i hi => by
        rw [hown3.cellAt i (by simpa using hi), show Cells8 A ++ Cells8 B = Cells8 (A ++ B) by simp [Cells8]]; exact Cells8_get _ i hi⟩
      have HwA : Holds8 w3 xo A := fun h => by
        obtain ⟨b, rfl, hc⟩ := Hx3.out h
        exact ⟨b, rfl, fun i hi => by rw [hb3.cell (World.block_lt_of_cell? _ _ (hc i hi))]; exact hc i hi⟩
      have HwB : Holds8 w3 yo B := fun h => by
        obtain ⟨b, rfl, hc⟩ := Hy3.out h
        exact ⟨b, rfl, fun i hi => by rw [hb3.cell (World.block_lt_of_cell? _ _ (hc i hi))]; exact hc i hi⟩
      have HBw3 : Hid (Below w.heap.size w w3) := Hbw.out.trans (hb3.mono hwc)
      clear hown1 hown2 hown3 hgrow1 hgrow2 hgrow3 hb1 hb2 HcA HcB Hx3 Hy3 Hbw hb3
      refine (pack_n _ _ _ (A ++ B) _ (by simp) (by simp; omega) (append8 A B HA8.out HB8.out) HwAB (Nat.le_refl _) (by unfold maxLen; omega)).mono ?_
      rintro e w4 ⟨gW, mW, OW, rfl, hOW, hmW, hpW, hoW, hbW⟩
      rw [padded_append A B hA] at hmW hpW
      have Hp7 : Hid (B.length % 8 = 7 → (padded B).length = B.length + 1 ∧ (A ++ padded B).getD (A.length + B.length) 0 = 13) := fun h => by
        rw [getD_right, pad7 h]; exact ⟨by simp, by simp [List.getD]⟩
      have Hpn : Hid (B.length % 8 ≠ 7 → (padded B).length = B.length) := fun h => by rw [pad_no h]
      generalize hPb : padded B = Pb at *
      have HPb : Hid (padded B = Pb) := hPb
      clear hPb
      rw [List.length_append] at hmW hpW
      have HmW := hid hmW
      have HpW := hid hpW
      have HoW := hid hoW
      have HbW := hid hbW
      have HOW := hid hOW
      clear hmW hpW hoW hbW hOW HwAB
      go_wp2_with fail
      refine (pack_n _ _ _ A _ rfl (by omega) HA8.out (fun h => by
        obtain ⟨b, rfl, hc⟩ := HwA h
        exact ⟨b, rfl, fun i hi => by rw [HbW.out.cell (World.block_lt_of_cell? _ _ (hc i hi))]; exact hc i hi⟩) hx1 hx2).mono ?_
      rintro e w5 ⟨gA, mA, OA, rfl, hOA, hmA, hpA, hoA, hbA⟩
      rw [padded8 A hA] at hmA hpA
      have HmA := hid hmA
      have HpA := hid hpA
      have HoA := hid hoA
      have HbA := hid hbA
      have HOA := hid hOA
      clear hmA hpA hoA hbA hOA HwA
      go_wp2_with fail
      refine (pack_n _ _ _ B _ rfl (by omega) HB8.out (fun h => by
        obtain ⟨b, rfl, hc⟩ := HwB h
        exact ⟨b, rfl, fun i hi => by rw [(HbW.out.trans (HbA.out.mono HbW.out.size)).cell (World.block_lt_of_cell? _ _ (hc i hi))]; exact hc i hi⟩) hy1 hy2).mono ?_
      rintro e w6 ⟨gB, mB, OB, rfl, hOB, hmB, hpB, hoB, hbB⟩
      rw [HPb.out] at hmB hpB
      have eW : mW = mA + mB := by have h1 := HmW.out; have h2 := HmA.out; omega
      have eA : mA = 7 * (A.length / 8) := by have h2 := HmA.out; omega
      have HcW : Hid (∀ i, i < mW → w6.cell? ⟨gW, i, none⟩ = some (.int .u8 ((OW.getD i 0 : Nat) : Int))) := fun i hi => by
        have h := HoW.out.cellAt i (by omega)
        rw [Cells8_get OW i (by have := HOW.out; omega)] at h
        rw [(HbA.out.trans (hbB.mono HbA.out.size)).cell (World.block_lt_of_cell? _ _ h)]; exact h
      have HcA : Hid (∀ i, i < mA → w6.cell? ⟨gA, i, none⟩ = some (.int .u8 ((OA.getD i 0 : Nat) : Int))) := fun i hi => by
        have h := HoA.out.cellAt i (by omega)
        rw [Cells8_get OA i (by have := HOA.out; omega)] at h
        rw [hbB.cell (World.block_lt_of_cell? _ _ h)]; exact h
      have HcB : Hid (∀ i, i < mB → w6.cell? ⟨gB, i, none⟩ = some (.int .u8 ((OB.getD i 0 : Nat) : Int))) := fun i hi => by
        have h := hoB.cellAt i (by omega)
        rw [Cells8_get OB i (by omega)] at h; exact h
      have HL : Hid (∀ i, i < mA → OW.getD i 0 = OA.getD i 0) := fun i hi => join_left A Pb OW OA _ i hA rfl HpW.out HpA.out (by omega)
      have HR : Hid (∀ i, OW.getD (mA + i) 0 = OB.getD i 0) := fun i => by rw [eA]; exact join_right A Pb OW OB _ i hA rfl HpW.out hpB
      have HLast : Hid (B.length % 8 = 7 → OW.getD (mW - 1) 0 / 2 = 13) := fun h => by
        have h7 := Hp7.out h
        refine join_last (A ++ Pb) OW (A.length + Pb.length) mW (by simp) (by omega) (by omega) ?_ ?_ HpW.out
        · rw [show A.length + Pb.length - 1 = A.length + B.length by omega]; exact h7.2
        · have := HmW.out; omega
      have HBw6 : Hid (Below w.heap.size w w6) := by
        have h3 := HBw3.out
        have h4 := h3.trans (HbW.out.mono h3.size)
        have h5 := h4.trans (HbA.out.mono h4.size)
        exact h5.trans (hbB.mono h5.size)
      obtain ⟨N, HN⟩ : ∃ N : Nat, Hid (N = A.length + Pb.length) := ⟨_, rfl⟩
      have hN1 : A.length + B.length ≤ N := by
        have h1 := HN.out
        by_cases h : B.length % 8 = 7
        · have := (Hp7.out h).1; omega
        · have := Hpn.out h; omega
      have hN2 : N ≤ A.length + B.length + 1 := by
        have h1 := HN.out
        by_cases h : B.length % 8 = 7
        · have := (Hp7.out h).1; omega
        · have := Hpn.out h; omega
      have HN7 : Hid (B.length % 8 = 7 → N = A.length + B.length + 1) := fun h => by have := (Hp7.out h).1; have := HN.out; omega
      have HNn : Hid (B.length % 8 ≠ 7 → N = A.length + B.length) := fun h => by have := Hpn.out h; have := HN.out; omega
      have HmN : Hid (mW = (N * 7 + 7) / 8) := by have h1 := HN.out; have h2 := HmW.out; rw [h1]; exact h2
      have HeW := hid eW
      have HeA := hid eA
      have hmAl : mA ≤ 1000000 := by omega
      have hmBl : mB ≤ 1000000 := by have := HmN.out; omega
      have hmWl : mW ≤ 2000000 := by omega
      have t1 : ((mA : Int) != 7 * ((A.length : Int) / 8)) = false := by rw [bne_eq_false_iff_eq]; omega
      have t2 : ((mW : Int) != (mA : Int) + (mB : Int)) = false := by rw [bne_eq_false_iff_eq]; omega
      clear eW eA hmB hpB hoB hbB hOB HmW HpW HoW HbW HOW HmA HpA HoA HbA HOA HBw3 HwB Hp7 Hpn HPb HN HA8 HB8 Hx4 Hy4 hx1 hx2 hy1 hy2
      go_upto_if 75 with fail
      go_cut [12] (fun v wx => v = .int .i64 N ∧ wx = w6)
      case first =>
        by_cases h7 : B.length % 8 = 7
        · have h7b : (((A.length : Int) + (B.length : Int)) % 8 == 7) = true := by rw [beq_iff_eq]; omega
          have e7 := HN7.out h7
          subst e7
          go_wp2
          go_meet
          exact ⟨by go_num, rfl⟩
        · have h7b : (((A.length : Int) + (B.length : Int)) % 8 == 7) = false := by rw [beq_eq_false_iff_ne]; omega
          have e7 := HNn.out h7
          subst e7
          go_wp2
          go_meet
          exact ⟨by go_num, rfl⟩
      case rest =>
        obtain ⟨rfl, rfl⟩ := hcut
        obtain ⟨w7, rfl⟩ : ∃ w7 : World, w7 = wc := ⟨_, rfl⟩
        go_upto_if 84 with fail
        go_cut [14] (fun v wx => v = .int .i64 mW ∧ wx = w7)
        case first =>
          by_cases h8 : N % 8 = 0
          · have h8b : (7 * (N : Int) % 8 != 0) = false := by rw [bne_eq_false_iff_eq]; omega
            have e8 : (mW : Int) = 7 * (N : Int) / 8 := by have := HmN.out; omega
            have He := hid e8
            clear e8
            go_wp2
            go_meet
            exact ⟨by rw [He.out], rfl⟩
          · have h8b : (7 * (N : Int) % 8 != 0) = true := by rw [bne_iff_ne]; omega
            have He := hid (want_len N mW h8 HmN.out)
            go_wp2
            go_meet
            exact ⟨by rw [He.out], rfl⟩
        case rest =>
          obtain ⟨rfl, hw⟩ := hcut
          subst hw
          obtain ⟨w8, rfl⟩ : ∃ w8 : World, w8 = wc := ⟨_, rfl⟩
          go_wp2
          go_loopw [15] (fun i wr => ∃ j nq : Nat, j ≤ mA ∧ i = .int .i64 j ∧ wr = w8.drewN nq) (fun i _ => mA - (intOf i).toNat)
          case atStart => exact ⟨0, 0, Nat.zero_le _, rfl, rfl⟩
          case round =>
            obtain ⟨j, nq, hj, rfl, rfl⟩ := hrel
            by_cases hlt : j < mA
            · have c1 := HcW.out j (by have := HeW.out; omega)
              have c2 := HcA.out j hlt
              rw [HL.out j hlt] at c1
              generalize OA.getD j 0 = x at *
              have l1 : (j : Int) < (mW : Int) := by have := HeW.out; omega
              have l2 : (j : Int) < (mA : Int) := by omega
              go_wp2
              go_quiet (fail)
              go_wp2
              go_roundw
              case rel => exact ⟨j + 1, _, by omega, by go_num, rfl⟩
              case measure => simp [intOf]; omega
            · go_wp2
              go_loopw [16] (fun i wr => ∃ j nq : Nat, j ≤ mB ∧ i = .int .i64 j ∧ wr = w8.drewN nq) (fun i _ => mB - (intOf i).toNat)
              case atStart => exact ⟨0, _, Nat.zero_le _, rfl, rfl⟩
              case round =>
                obtain ⟨k, nk, hk, rfl, rfl⟩ := hrel
                by_cases hlk : k < mB
                · have c1 := HcW.out (mA + k) (by have := HeW.out; omega)
                  have c2 := HcB.out k hlk
                  rw [HR.out k] at c1
                  generalize OB.getD k 0 = x at *
                  have l1 : (mA : Int) + (k : Int) < (mW : Int) := by have := HeW.out; omega
                  have l2 : (k : Int) < (mB : Int) := by omega
                  go_wp2
                  go_quiet (fail)
                  go_wp2
                  go_roundw
                  case rel => exact ⟨k + 1, _, by omega, by go_num, rfl⟩
                  case measure => simp [intOf]; omega
                · by_cases h7 : B.length % 8 = 7
                  · have h7b : (((A.length : Int) + (B.length : Int)) % 8 == 7) = true := by rw [beq_iff_eq]; omega
                    have hp : 0 < mW := by have := HmN.out; omega
                    have c1 := HcW.out (mW - 1) (by omega)
                    have hl := HLast.out h7
                    generalize OW.getD (mW - 1) 0 = x at *
                    have l1 : (1 : Int) ≤ (mW : Int) := by omega
                    have hx : (((x : Nat) : Int) / 2 != 13) = false := by rw [bne_eq_false_iff_eq]; omega
                    clear hl
                    go_wp2
                    go_ret
                    exact ⟨rfl, below_drewN HBw6.out _⟩
                  · have h7b : (((A.length : Int) + (B.length : Int)) % 8 == 7) = false := by rw [beq_eq_false_iff_ne]; omega
                    go_wp2
                    go_ret
                    exact ⟨rfl, below_drewN HBw6.out _⟩

/-- Longer than the bound, or no multiple of eight: it returns at once. -/
theorem join_over (ao bo : Option Addr) (la lb ca cb : Nat) (w : World) (ha : la ≤ maxLen) (hb : lb ≤ maxLen) (h : 1048576 < la + lb) :
    Calls Try.prog 4 #[.slice ao la ca, .slice bo lb cb] w fun e w' => e = .returned (.bool true) ∧ Below w.heap.size w w' := by
  unfold maxLen at ha hb
  by_cases h1 : 1048576 < la
  · go_enter Try.func4, Try.ntmps4
    go_wp2
    go_ret
    exact ⟨rfl, Below.refl _ _⟩
  · by_cases h2 : 1048576 < lb
    · go_enter Try.func4, Try.ntmps4
      go_wp2
      go_ret
      exact ⟨rfl, Below.refl _ _⟩
    · go_enter Try.func4, Try.ntmps4
      go_wp2
      go_ret
      exact ⟨rfl, Below.refl _ _⟩

theorem join_mod (ao bo : Option Addr) (la lb ca cb : Nat) (w : World) (h : la + lb ≤ 1048576) (h8 : la % 8 ≠ 0) :
    Calls Try.prog 4 #[.slice ao la ca, .slice bo lb cb] w fun e w' => e = .returned (.bool true) ∧ Below w.heap.size w w' := by
  have hb : ((la : Int) % 8 != 0) = true := by rw [bne_iff_ne]; omega
  go_enter Try.func4, Try.ntmps4
  go_wp2
  go_ret
  exact ⟨rfl, Below.refl _ _⟩

end Go.Proofs.Qxb6628651a
