import Derived.Test.Qxb6628733aPlace
namespace Go.Proofs.Qxb6628733a
open Go.RowKit

def plCs (p : Pl) : List Value := [.int .i64 p.k, .string p.f, .string p.s]
def PlCells (L : List Pl) : List Value := L.flatMap plCs
theorem PlCells_length (L : List Pl) : (PlCells L).length = L.length * 3 := by
  induction L with
  | nil => rfl
  | cons x L ih => simp [PlCells, plCs] at *; omega
theorem PlCells_append (A B : List Pl) : PlCells A ++ PlCells B = PlCells (A ++ B) := by simp [PlCells]
theorem PlCells_get : ∀ (L : List Pl) (i c : Nat), i < L.length → c < 3 → (PlCells L)[i * 3 + c]? = (plCs (L.getD i noPl))[c]? := by
  intro L
  induction L with
  | nil => intro i c h; simp at h
  | cons x L ih =>
    intro i c h hc
    cases i with
    | zero =>
      have : c = 0 ∨ c = 1 ∨ c = 2 := by omega
      rcases this with rfl | rfl | rfl <;> simp [PlCells, plCs]
    | succ i =>
      have e : (PlCells (x :: L)) = plCs x ++ PlCells L := by simp [PlCells]
      rw [e, List.getElem?_append_right (by simp [plCs]; omega)]
      have e2 : (i + 1) * 3 + c - (plCs x).length = i * 3 + c := by simp [plCs]; omega
      rw [e2, ih i c (by simpa using h) hc]
      simp
theorem PlCells_one (L : List Pl) : ∀ u ∈ PlCells L, u.oneCell' = true := by
  intro u hu
  obtain ⟨p, _, hp⟩ := List.mem_flatMap.1 hu
  simp [plCs] at hp
  rcases hp with rfl | rfl | rfl <;> rfl

theorem info33 : (Try.prog.info? 33).map (fun i => (i.zero, i.size, i.bytes)) = some (some (.agg #[.int .i64 0, .string ⟨#[]⟩, .string ⟨#[]⟩]), 3, 40) := by kernel_rfl

/-- A row of the call's own that holds the places L. -/
def OwnPl (w : World) (B : Nat) (v : Value) (L : List Pl) : Prop := w.ownsRow B 33 3 v L.length (PlCells L)

theorem OwnPl_nil (w : World) (B : Nat) : OwnPl w B (.slice none 0 0) [] := World.ownsRow_nil w B 33 3
theorem OwnPl_form {w : World} {B : Nat} {v : Value} {L : List Pl} (h : OwnPl w B v L) :
    ∃ fo cap, v = .slice fo L.length cap ∧ PlsAt w fo L ∧ (∀ ad, fo = some ad → ∃ g, ad = ⟨g, 0, none⟩ ∧ B ≤ g ∧ g < w.heap.size) ∧ L.length ≤ cap ∧ cap ≤ maxLen ∧ (fo = none → cap = 0 ∧ L = []) := by
  have h0 := h
  rcases h.2 with ⟨rfl, hn⟩ | ⟨g, cap, cur, rfl, hb, hg, hnc, hcm, r⟩
  · have hL : L = [] := List.eq_nil_of_length_eq_zero hn
    subst hL
    exact ⟨none, 0, rfl, fun h => by simp at h, by simp, Nat.le_refl _, by unfold maxLen; omega, by simp⟩
  · refine ⟨some ⟨g, 0, none⟩, cap, rfl, fun _ => ⟨g, 0, rfl, fun j hj => ?_⟩, fun ad had => by cases had; exact ⟨g, rfl, hb, (h.lt g rfl).2⟩, hnc, hcm, by simp⟩
    have hx : ∀ c, c < 3 → w.cell? ⟨g, 0 + j * 3 + c, none⟩ = (plCs (L.getD j noPl))[c]? := fun c hc => by
      rw [World.ownsRow.cellAt h (0 + j * 3 + c) (by omega), Nat.zero_add, PlCells_get L j c hj hc]
    exact ⟨hx 0 (by omega), hx 1 (by omega), hx 2 (by omega)⟩

theorem owns_later {w w' : World} {B : Nat} {e : TypeId} {size : Nat} {v : Value} {n : Nat} {xs : List Value} (h : w.ownsRow B e size v n xs) (hb : Below w.heap.size w w') : w'.ownsRow B e size v n xs := by
  obtain ⟨h1, h2⟩ := h
  refine ⟨h1, ?_⟩
  rcases h2 with h2 | ⟨g, cap, cur, hv, hg, hh, r⟩
  · exact .inl h2
  · exact .inr ⟨g, cap, cur, hv, hg, by rw [hb.block g (Array.getElem?_eq_some_iff.1 hh).1]; exact hh, r⟩
theorem OwnPl_later {w w' : World} {B : Nat} {v : Value} {L : List Pl} (h : OwnPl w B v L) (hb : Below w.heap.size w w') : OwnPl w' B v L := owns_later h hb
theorem below_alloc (w : World) (o : Obj) : Below w.heap.size w (w.alloc o) := (Below.refl _ _).alloc (Nat.le_refl _) o

theorem cell_three_new (w : World) (a b c : Value) (t : TypeId) : ∀ j u, [a, b, c][j]? = some u → (w.alloc (.cells #[a, b, c] t)).cell? ((⟨w.heap.size, 0, none⟩ : Addr).add j) = some u := by
  intro j u hj
  match j, hj with
  | 0, hj => simp at hj; subst hj; simp [Addr.add]
  | 1, hj => simp at hj; subst hj; simp [Addr.add]
  | 2, hj => simp at hj; subst hj; simp [Addr.add]

/-- The agent a lies at offset o of block b. -/
def AgAt (w : World) (b o : Nat) (a : Ag) : Prop :=
  w.cell? ⟨b, o, none⟩ = some (.string a.nm) ∧ w.cell? ⟨b, o + 1, none⟩ = some (.string a.fd) ∧
    ∃ fo fc, w.cell? ⟨b, o + 2, none⟩ = some (.slice fo a.fl.length fc) ∧ PlsAt w fo a.fl ∧ (fo = none → a.fl = [])
def noAg : Ag := ⟨ByteArray.empty, ByteArray.empty, []⟩
def AgsAt (w : World) (ao : Option Addr) (As : List Ag) : Prop :=
  0 < As.length → ∃ b o, ao = some ⟨b, o, none⟩ ∧ ∀ i, i < As.length → AgAt w b (o + i * 3) (As.getD i noAg)
theorem AgAt_later {w w' : World} {b o : Nat} {a : Ag} (h : AgAt w b o a) (hb : Below w.heap.size w w') : AgAt w' b o a := by
  obtain ⟨h1, h2, fo, fc, h3, h4, h5⟩ := h
  have hB := World.block_lt_of_cell? _ _ h1
  exact ⟨by rw [hb.cell (by exact hB)]; exact h1, by rw [hb.cell (by exact hB)]; exact h2, fo, fc, by rw [hb.cell (by exact hB)]; exact h3, PlsAt_later h4 hb, h5⟩
theorem AgsAt_later {w w' : World} {ao : Option Addr} {As : List Ag} (h : AgsAt w ao As) (hb : Below w.heap.size w w') : AgsAt w' ao As := fun hp => by
  obtain ⟨b, o, rfl, hc⟩ := h hp
  exact ⟨b, o, rfl, fun i hi => AgAt_later (hc i hi) hb⟩

set_option maxHeartbeats 1000000 in
theorem places_any (ao : Option Addr) (cap : Nat) (As : List Ag) (k : Int) (w : World) (hn : As.length ≤ 100000) (hfl : ∀ i, i < As.length → (As.getD i noAg).fl.length ≤ 2000000) (hA : AgsAt w ao As) :
    Calls Try.prog 8 #[.slice ao As.length cap, .int .i64 k] w fun e w' => ∃ v, e = .returned v ∧ OwnPl w' w.heap.size v (places As k) ∧ Below w.heap.size w w' := by
  obtain ⟨i0, hi, hz0, hz1, hz2⟩ := info_parts info33
  go_enter Try.func8, Try.ntmps8
  go_wp2
  go_loopw [5, 12] (fun v i wr => ∃ j : Nat, j ≤ As.length ∧ i = .int .i64 j ∧ OwnPl wr w.heap.size v (places (As.take j) k) ∧ Below w.heap.size w wr) (fun _ i _ => As.length - (intOf i).toNat)
  case atStart => exact ⟨0, Nat.zero_le _, rfl, OwnPl_nil _ _, Below.refl _ _⟩
  case round =>
    obtain ⟨j, hj, rfl, hown, hbel⟩ := hrel
    by_cases hlt : j < As.length
    · obtain ⟨b, o, rfl, hc⟩ := hA (by omega)
      have hag := AgAt_later (hc j hlt) hbel
      have hflj := hfl j hlt
      have Hsn : Hid (places (As.take (j + 1)) k = addP (places (As.take j) k) (reads (As.getD j noAg) k)) := by
        show _ = _
        rw [← places_snoc]; congr 1
        rw [List.take_add_one]; simp [List.getD, List.getElem?_eq_getElem hlt]
      have HPl := hid (places_length (As.take j) k)
      have Hhc := hid hc
      clear hfl hc hA
      generalize places (As.take j) k = L at *
      generalize As.getD j noAg = a at *
      obtain ⟨c0, c1, fo, fc, c2, hpls, _⟩ := hag
      obtain ⟨lo, lc, rfl, hlp, hlb, hlc, hlm, hln⟩ := OwnPl_form hown
      have Ho := hid hown
      have Hb := hid hbel
      have hwr := hbel.size
      have Hlp := hid hlp
      have Hpls := hid hpls
      clear hown hbel hlp hpls hlb hln
      have hbb := World.block_lt_of_cell? _ _ c0
      have Hplace := hid fun (W : World) (hW : PlsAt W fo a.fl) => place_any a fo fc k W hflj hW
      unfold agV at Hplace
      go_wp2_with fail
      refine (Hplace.out _ (PlsAt_later Hpls.out (below_alloc _ _))).mono ?_
      rintro e w1 ⟨rfl, hb1⟩
      have hb1' : Below wr.heap.size wr w1 := (below_alloc wr _).trans (hb1.mono (by simp))
      have Hb1 := hid hb1'
      have hw1 := hb1'.size
      clear hb1 hb1' Hplace
      cases hr : reads a k with
      | none =>
        rw [hr] at Hsn
        have Hsn' : Hid (places (As.take (j + 1)) k = L) := Hsn.out
        clear hr
        simp only [Option.getD_none, Option.isSome_none]
        unfold plV
        have HO2 := hid fun (o : Obj) => OwnPl_later Ho.out (Hb1.out.trans ((below_alloc w1 o).mono hw1))
        have HB2 := hid fun (o : Obj) => Hb.out.trans ((Hb1.out.trans ((below_alloc w1 o).mono hw1)).mono hwr)
        go_wp2
        go_roundw
        case rel => exact ⟨j + 1, by omega, by go_num, by rw [Hsn'.out]; exact HO2.out _, HB2.out _⟩
        case measure => simp [intOf]; omega
      | some p =>
        rw [hr] at Hsn
        clear hr
        simp only [Option.getD_some, Option.isSome_some]
        unfold plV
        go_wp2_with fail
        have hb2 : Below wr.heap.size wr (w1.alloc (.cells #[.int .i64 p.k, .string p.f, .string p.s] 33)) := Hb1.out.trans ((below_alloc w1 _).mono hw1)
        have hcl : (w1.alloc (.cells #[.int .i64 p.k, .string p.f, .string p.s] 33)).cell? ⟨w1.heap.size, 1, none⟩ = some (.string p.f) := by simp
        refine (contains_any lo lc L p w1.heap.size _ (by have := HPl.out; simp at this; omega) (PlsAt_later Hlp.out hb2) hcl).mono ?_
        rintro e w2 ⟨rfl, hb3⟩
        have hsz3 := hb3.size
        simp only [World.size_alloc] at hsz3
        have hb4 : Below wr.heap.size wr w2 := hb2.trans (hb3.mono (by simp; omega))
        have Ho2 := hid (OwnPl_later Ho.out hb4)
        have Hb2 := hid (Hb.out.trans (hb4.mono hwr))
        have p0 : w2.cell? ⟨w1.heap.size, 0, none⟩ = some (.int .i64 p.k) := by rw [hb3.cell (by simp)]; simp
        have p1 : w2.cell? ⟨w1.heap.size, 1, none⟩ = some (.string p.f) := by rw [hb3.cell (by simp)]; simp
        have p2 : w2.cell? ⟨w1.heap.size, 2, none⟩ = some (.string p.s) := by rw [hb3.cell (by simp)]; simp
        have hw2 := hb4.size
        clear hb2 hcl hb3 hb4 Ho Hb Hb1
        cases hh : holds L p with
        | true =>
          have Hsn' : Hid (places (As.take (j + 1)) k = L) := by rw [Hsn.out]; exact if_pos hh
          clear Hsn hh
          go_wp2
          go_roundw
          case rel => exact ⟨j + 1, by omega, by go_num, by rw [Hsn'.out]; exact Ho2.out, Hb2.out⟩
          case measure => simp [intOf]; omega
        | false =>
          have Hsn' : Hid (places (As.take (j + 1)) k = L ++ [p]) := by rw [Hsn.out]; exact if_neg (by rw [hh]; simp)
          clear Hsn hh
          have hLl : L.length ≤ 100000 := by have := HPl.out; simp at this; omega
          go_wp2_with (at_builtin; refine wpList_append_own _ rfl (.tmp 29) (.tmp 31) 28 rfl w.heap.size 33 i0 _ 3 40 Try.underlying28 hi hz0 hz1 hz2 rfl (by decide) (.slice lo L.length lc) L.length (PlCells L) rfl (Ho2.out.alloc _) ⟨w2.heap.size, 0, none⟩ 1 1 [.int .i64 p.k, .string p.f, .string p.s] rfl rfl (cell_three_new _ _ _ _ _) (by intro u hu; simp at hu; rcases hu with rfl | rfl | rfl <;> rfl) (by unfold maxLen; omega) (by omega) (by simp; omega) ?_; intro v' w3 hown3 hgrow3 _)
          have Ho3 : Hid (OwnPl w3 w.heap.size v' (L ++ [p])) := by
            show World.ownsRow _ _ _ _ _ _ _
            have e : PlCells L ++ [.int .i64 p.k, .string p.f, .string p.s] = PlCells (L ++ [p]) := by simp [PlCells, plCs]
            rw [e] at hown3
            have e2 : (L ++ [p]).length = L.length + 1 := by simp
            rw [e2]; exact hown3
          have Hb3 : Hid (Below w.heap.size w w3) := by
            refine (Hb2.out.alloc (by omega) _).grown hgrow3 (by simp; omega) ?_
            intro q hq
            exact (Ho2.out.lt q hq).1
          clear hown3 hgrow3 Ho2 Hb2
          go_wp2
          go_roundw
          case rel => exact ⟨j + 1, by omega, by go_num, by rw [Hsn'.out]; exact Ho3.out, Hb3.out⟩
          case measure => simp [intOf]; omega
    · go_wp2
      go_ret
      refine ⟨_, rfl, ?_, hbel⟩
      rw [List.take_of_length_le (by omega)] at hown; exact hown
end Go.Proofs.Qxb6628733a
