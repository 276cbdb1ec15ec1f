import Derived.Test.Qxb6628733aJoin
namespace Go.Proofs.Qxb6628733a
open Go.RowKit

theorem info41 : (Try.prog.info? 41).map (fun i => (i.zero, i.size, i.bytes)) = some (some (.agg #[.string ⟨#[]⟩, .string ⟨#[]⟩, .slice none 0 0]), 3, 56) := by kernel_rfl

theorem PlCells_set : ∀ (L : List Pl) (j : Nat) (p : Pl), j < L.length → (((PlCells L).set (j * 3) (.int .i64 p.k)).set (j * 3 + 1) (.string p.f)).set (j * 3 + 2) (.string p.s) = PlCells (L.set j p) := by
  intro L
  induction L with
  | nil => intro j p h; simp at h
  | cons x L ih =>
    intro j p h
    cases j with
    | zero => simp [PlCells, plCs]
    | succ j =>
      have e : PlCells (x :: L) = plCs x ++ PlCells L := by simp [PlCells]
      have e2 : PlCells ((x :: L).set (j + 1) p) = plCs x ++ PlCells (L.set j p) := by simp [PlCells]
      have hl : (plCs x).length = 3 := rfl
      rw [e, e2, ← ih j p (by simpa using h)]
      rw [List.set_append_right _ _ (by rw [hl]; omega), List.set_append_right _ _ (by rw [hl]; omega), List.set_append_right _ _ (by rw [hl]; omega), hl]
      congr 4 <;> omega

/-- The files after j rounds. -/
def half (L : List Pl) (n j : Nat) : List Pl := L.take j ++ List.replicate (n - j) noPl
theorem half_length (L : List Pl) (n j : Nat) (hn : L.length = n) (hj : j ≤ n) : (half L n j).length = n := by simp [half]; omega
theorem half_all (L : List Pl) (n : Nat) (hn : L.length = n) : half L n n = L := by simp [half, List.take_of_length_le (Nat.le_of_eq hn)]
theorem half_step (L : List Pl) (n j : Nat) (hn : L.length = n) (hj : j < n) : (half L n j).set j (L.getD j noPl) = half L n (j + 1) := by
  apply List.ext_getElem?
  intro i
  unfold half
  have hl : (L.take j).length = j := by simp; omega
  rcases Nat.lt_trichotomy i j with h | h | h
  · rw [List.getElem?_set_ne (by omega), List.getElem?_append_left (by omega), List.getElem?_append_left (by simp; omega)]
    simp [h, show i < j + 1 by omega]
  · subst h
    rw [List.getElem?_set_self (by simp; omega), List.getElem?_append_left (by simp; omega)]
    simp [List.getD, show i < L.length by omega]
  · rw [List.getElem?_set_ne (by omega), List.getElem?_append_right (by omega), List.getElem?_append_right (by simp; omega)]
    simp only [List.getElem?_replicate, List.length_take]
    congr 1
    simp; omega
theorem half_zero_cells (n : Nat) (L : List Pl) : (madeCells (Value.agg #[.int .i64 0, .string ⟨#[]⟩, .string ⟨#[]⟩]).cells (n * 3)).toList = PlCells (half L n 0) := by
  have hh : half L n 0 = List.replicate n noPl := by simp [half]
  rw [hh]
  apply List.ext_getElem?
  intro i
  by_cases hi : i < n * 3
  · have e1 : (madeCells (Value.agg #[.int .i64 0, .string ⟨#[]⟩, .string ⟨#[]⟩]).cells (n * 3)).toList[i]? = some ((#[Value.int .i64 0, .string ⟨#[]⟩, .string ⟨#[]⟩] : Array Value)[i % 3]!) := by
      simp [madeCells, hi, Value.cells]
    have e2 := PlCells_get (List.replicate n noPl) (i / 3) (i % 3) (by simp; omega) (by omega)
    rw [show i / 3 * 3 + i % 3 = i by omega] at e2
    have e3 : (List.replicate n noPl).getD (i / 3) noPl = noPl := by simp [List.getD, List.getElem?_replicate]; split <;> rfl
    rw [e1, e2, e3]
    have hm : i % 3 = 0 ∨ i % 3 = 1 ∨ i % 3 = 2 := by omega
    rcases hm with h | h | h <;> rw [h] <;> rfl
  · rw [List.getElem?_eq_none (by simp [size_madeCells]; omega), List.getElem?_eq_none (by rw [PlCells_length]; simp; omega)]

/-- Three stores of one place into a row of the call's own. -/
theorem OwnPl_store {w : World} {B g n : Nat} {L : List Pl} (p : Pl) (j : Nat) (hL : L.length = n) (hj : j < n) (h : OwnPl w B (.slice (some ⟨g, 0, none⟩) n n) L) :
    OwnPl (((w.setCell ⟨g, j * 3, none⟩ (.int .i64 p.k)).setCell ⟨g, j * 3 + 1, none⟩ (.string p.f)).setCell ⟨g, j * 3 + 2, none⟩ (.string p.s)) B (.slice (some ⟨g, 0, none⟩) n n) (L.set j p) := by
  subst hL
  have h1 := (World.ownsRow.stored h (j * 3) (.int .i64 p.k)).1
  have h2 := (World.ownsRow.stored h1 (j * 3 + 1) (.string p.f)).1
  have h3 := (World.ownsRow.stored h2 (j * 3 + 2) (.string p.s)).1
  rw [PlCells_set L j p hj] at h3
  show World.ownsRow _ _ _ _ _ _ _
  rw [List.length_set]; exact h3

theorem cell_set_far {w : World} {p a : Addr} {v : Value} (h : a.block ≠ p.block) : (w.setCell p v).cell? a = w.cell? a :=
  World.cell?_of_block (Below.heap_setCell w p v a.block h)
theorem PlsAt_set {w : World} {fo : Option Addr} {L : List Pl} {p : Addr} {v : Value} (h : PlsAt w fo L) (hne : ∀ ad, fo = some ad → ad.block ≠ p.block) : PlsAt (w.setCell p v) fo L := fun hp => by
  obtain ⟨b, o, rfl, hc⟩ := h hp
  have hb : b ≠ p.block := hne _ rfl
  exact ⟨b, o, rfl, fun j hj => ⟨by rw [cell_set_far hb]; exact (hc j hj).1, by rw [cell_set_far hb]; exact (hc j hj).2.1, by rw [cell_set_far hb]; exact (hc j hj).2.2⟩⟩

/-- Agent number i of the new row. -/
def AgCs (w : World) (g : Nat) (xs : List Value) (i : Nat) (a : Ag) : Prop :=
  xs[i * 3]? = some (.string a.nm) ∧ xs[i * 3 + 1]? = some (.string a.fd) ∧
    ∃ fo fc, xs[i * 3 + 2]? = some (.slice fo a.fl.length fc) ∧ PlsAt w fo a.fl ∧ (fo = none → a.fl = []) ∧ ∀ ad, fo = some ad → ad.block ≠ g
def Filled (w : World) (g : Nat) (xs : List Value) (As : List Ag) (i : Nat) : Prop := ∀ i', i' < i → AgCs w g xs i' (As.getD i' noAg)

theorem Filled_later {w w' : World} {g : Nat} {xs : List Value} {As : List Ag} {i : Nat} (h : Filled w g xs As i) (hb : Below w.heap.size w w') : Filled w' g xs As i := fun i' hi' => by
  obtain ⟨h1, h2, fo, fc, h3, h4, h5⟩ := h i' hi'
  exact ⟨h1, h2, fo, fc, h3, PlsAt_later h4 hb, h5⟩

/-- What a round of toAgents leaves. -/
theorem Filled_step {w : World} {B g n i : Nat} {xs : List Value} {As : List Ag} {a : Ag} {fo : Option Addr} {fc : Nat} (ha : As.getD i noAg = a) (hi : i < n)
    (hown : w.ownsRow B 41 3 (.slice (some ⟨g, 0, none⟩) n n) n xs) (hf : Filled w g xs As i) (hp : PlsAt w fo a.fl) (hn : fo = none → a.fl = []) (hne : ∀ ad, fo = some ad → ad.block ≠ g) :
    ∃ xs', (((w.setCell ⟨g, i * 3, none⟩ (.string a.nm)).setCell ⟨g, i * 3 + 1, none⟩ (.string a.fd)).setCell ⟨g, i * 3 + 2, none⟩ (.slice fo a.fl.length fc)).ownsRow B 41 3 (.slice (some ⟨g, 0, none⟩) n n) n xs' ∧
      Filled (((w.setCell ⟨g, i * 3, none⟩ (.string a.nm)).setCell ⟨g, i * 3 + 1, none⟩ (.string a.fd)).setCell ⟨g, i * 3 + 2, none⟩ (.slice fo a.fl.length fc)) g xs' As (i + 1) := by
  have hxl : xs.length = n * 3 := hown.1
  have h1 := (World.ownsRow.stored hown (i * 3) (.string a.nm)).1
  have h2 := (World.ownsRow.stored h1 (i * 3 + 1) (.string a.fd)).1
  have h3 := (World.ownsRow.stored h2 (i * 3 + 2) (.slice fo a.fl.length fc)).1
  refine ⟨_, h3, fun i' hi' => ?_⟩
  have keep : ∀ (fo' : Option Addr) (L : List Pl), PlsAt w fo' L → (∀ ad, fo' = some ad → ad.block ≠ g) → PlsAt (((w.setCell ⟨g, i * 3, none⟩ (.string a.nm)).setCell ⟨g, i * 3 + 1, none⟩ (.string a.fd)).setCell ⟨g, i * 3 + 2, none⟩ (.slice fo a.fl.length fc)) fo' L :=
    fun fo' L h hne' => PlsAt_set (PlsAt_set (PlsAt_set h hne') hne') hne'
  by_cases hc : i' < i
  · obtain ⟨g1, g2, fo', fc', g3, g4, g5, g6⟩ := hf i' hc
    refine ⟨?_, ?_, fo', fc', ?_, keep fo' _ g4 g6, g5, g6⟩
    · rw [List.getElem?_set_ne (by omega), List.getElem?_set_ne (by omega), List.getElem?_set_ne (by omega)]; exact g1
    · rw [List.getElem?_set_ne (by omega), List.getElem?_set_ne (by omega), List.getElem?_set_ne (by omega)]; exact g2
    · rw [List.getElem?_set_ne (by omega), List.getElem?_set_ne (by omega), List.getElem?_set_ne (by omega)]; exact g3
  · obtain rfl : i' = i := by omega
    rw [ha]
    refine ⟨?_, ?_, fo, fc, ?_, keep fo _ hp hne, hn, hne⟩
    · rw [List.getElem?_set_ne (by omega), List.getElem?_set_ne (by omega), List.getElem?_set_self (by omega)]
    · rw [List.getElem?_set_ne (by omega), List.getElem?_set_self (by simp; omega)]
    · rw [List.getElem?_set_self (by simp; omega)]

theorem Filled_done {w : World} {B g n : Nat} {xs : List Value} {As : List Ag} (hn : As.length = n) (hown : w.ownsRow B 41 3 (.slice (some ⟨g, 0, none⟩) n n) n xs) (hf : Filled w g xs As n) : AgsAt w (some ⟨g, 0, none⟩) As := fun _ =>
  ⟨g, 0, rfl, fun i hi => by
    obtain ⟨g1, g2, fo, fc, g3, g4, g5, _⟩ := hf i (by omega)
    refine ⟨?_, ?_, fo, fc, ?_, g4, g5⟩
    · rw [Nat.zero_add, hown.cellAt _ (by omega)]; exact g1
    · rw [Nat.zero_add, hown.cellAt _ (by omega)]; exact g2
    · rw [Nat.zero_add, hown.cellAt _ (by omega)]; exact g3⟩

theorem toAgents_nil (w : World) : Calls Try.prog 7 #[.slice none 0 0] w fun e w' => e = .returned (.slice none 0 0) ∧ Below w.heap.size w w' := by
  have heq := fun (w : World) => Lib.run_eql_slice_nil (P := Try.prog) w 22 38 none 0 0 0 0 Try.underlying22
  go_enter Try.func7, Try.ntmps7
  go_wp2
  go_ret
  exact ⟨rfl, Below.refl _ _⟩

set_option maxHeartbeats 1000000 in
theorem toAgents_row (ad : Addr) (cap : Nat) (As : List Ag) (w : World) (hn : As.length ≤ 100000) (hfl : ∀ i, i < As.length → (As.getD i noAg).fl.length ≤ 2000000) (hA : AgsAt w (some ad) As) :
    Calls Try.prog 7 #[.slice (some ad) As.length cap] w fun e w' => ∃ g, e = .returned (.slice (some ⟨g, 0, none⟩) As.length As.length) ∧ g < w'.heap.size ∧ AgsAt w' (some ⟨g, 0, none⟩) As ∧ Below w.heap.size w w' := by
  obtain ⟨i0, hi, hz0, hz1, hz2⟩ := info_parts info41
  obtain ⟨i1, hj, hy0, hy1, hy2⟩ := info_parts info33
  have HA := hid hA
  have Hfl := hid hfl
  clear hA hfl
  have heq := fun (w : World) => Lib.run_eql_slice_nil (P := Try.prog) w 22 38 (some ad) As.length cap 0 0 Try.underlying22
  go_enter Try.func7, Try.ntmps7
  go_wp2_with (at_make; refine wpList_make_full _ rfl _ _ 25 rfl w.heap.size 41 i0 _ 3 Try.underlying25 hi hz0 hz1 _ _ _ _ As.length rfl rfl (by omega) (by omega) (by rw [hz2]; omega) (by unfold maxLen; omega) (by simp) ?_; intro w1 hown1 hgrow1)
  have hb1 : Below w.heap.size w w1 := (Below.refl _ _).grown hgrow1 (Nat.le_refl _) (by simp)
  clear hgrow1
  go_loopw [4] (fun c wr => ∃ (i : Nat) (xs : List Value), i ≤ As.length ∧ c = .int .i64 i ∧ wr.ownsRow w.heap.size 41 3 (.slice (some ⟨w.heap.size, 0, none⟩) As.length As.length) As.length xs ∧ Filled wr w.heap.size xs As i ∧ Below w.heap.size w wr) (fun c _ => As.length - (intOf c).toNat)
  case atStart => exact ⟨0, _, Nat.zero_le _, rfl, hown1, fun i' h => by omega, hb1⟩
  case round =>
    obtain ⟨i, xs, hil, rfl, hown, hfill, hbel⟩ := hrel
    clear hown1 hb1
    by_cases hlt : i < As.length
    · obtain ⟨b, o, hbo, hc⟩ := HA.out (by omega)
      cases hbo
      obtain ⟨c0, c1, fo, fc, c2, hpls, hnil⟩ := AgAt_later (hc i hlt) hbel
      have hflj := Hfl.out i hlt
      have Ha : Hid (As.getD i noAg = As.getD i noAg) := rfl
      clear hc
      generalize hag : As.getD i noAg = a at *
      have Hag := hid hag
      clear hag Ha
      have hgw : w.heap.size < wr.heap.size := (hown.lt _ rfl).2
      have hbb := World.block_lt_of_cell? _ _ c0
      have hxl : xs.length = As.length * 3 := hown.1
      have HO : ∀ c, c < 3 → ∃ v, wr.cell? ⟨w.heap.size, i * 3 + c, none⟩ = some v := fun c hc3 =>
        ⟨xs[i * 3 + c]'(by omega), by rw [hown.cellAt _ (by omega)]; exact List.getElem?_eq_getElem (by omega)⟩
      have HFz : ∀ c, wr.frozen? ⟨w.heap.size, i * 3 + c, none⟩ = false := fun c => hown.frozenAt _
      have Ho := hid hown
      have Hf := hid hfill
      have Hb := hid hbel
      have Hp := hid hpls
      have Hnil := hid hnil
      have hwsz := hbel.size
      clear hown hfill hbel hpls hnil
      obtain ⟨wi, rfl⟩ : ∃ wi : World, wi = wr := ⟨_, rfl⟩
      cases fo with
      | none =>
        have hfl0 : a.fl = [] := Hnil.out rfl
        obtain ⟨v0, o0⟩ : ∃ v, wi.cell? ⟨w.heap.size, i * 3, none⟩ = some v := HO 0 (by omega)
        obtain ⟨v1, o1⟩ := HO 1 (by omega)
        obtain ⟨v2, o2⟩ := HO 2 (by omega)
        have f0 : wi.frozen? ⟨w.heap.size, i * 3, none⟩ = false := HFz 0
        have f1 := HFz 1
        have f2 := HFz 2
        obtain ⟨xs', hox, hfx⟩ := Filled_step (fo := none) (fc := 0) (B := w.heap.size) Hag.out hlt Ho.out Hf.out Hp.out (fun _ => hfl0) (by simp)
        have hbx : Below w.heap.size w (((wi.setCell ⟨w.heap.size, i * 3, none⟩ (.string a.nm)).setCell ⟨w.heap.size, i * 3 + 1, none⟩ (.string a.fd)).setCell ⟨w.heap.size, i * 3 + 2, none⟩ (.slice none a.fl.length 0)) :=
          ((Hb.out.setCell (Nat.le_refl _) _).setCell (Nat.le_refl _) _).setCell (Nat.le_refl _) _
        have hl0 : a.fl.length = 0 := by rw [hfl0]; rfl
        rw [hl0] at hox hfx hbx c2
        have Hox := hid fun (ob : Obj) => hox.alloc ob
        have Hfx := hid fun (ob : Obj) => Filled_later hfx (below_alloc _ ob)
        have Hbx := hid fun (ob : Obj) => hbx.alloc hbx.size ob
        clear hox hfx hbx HO HFz hfl0
        go_wp2
        go_roundw
        case rel => exact ⟨i + 1, xs', by omega, by go_num, Hox.out _, Hfx.out _, Hbx.out _⟩
        case measure => simp [intOf]; omega
      | some fad =>
        go_wp2_with (at_make; refine wpList_make_full _ rfl _ _ 28 rfl (wi.heap.size + 1) 33 i1 _ 3 Try.underlying28 hj hy0 hy1 _ _ _ _ a.fl.length rfl rfl (by omega) (by omega) (by rw [hy2]; omega) (by unfold maxLen; omega) (by simp) ?_; intro w2 hown2 hgrow2)
        rw [half_zero_cells a.fl.length a.fl] at hown2
        simp only [World.size_alloc] at hown2
        have hb2 : Below (wi.heap.size + 1) (wi.alloc (.cells #[.string a.nm, .string a.fd, .slice (some fad) a.fl.length fc] 38)) w2 := (Below.refl _ _).grown hgrow2 (by simp) (by simp)
        clear hgrow2
        have Hbox : Hid (∀ W : World, Below (wi.heap.size + 1) (wi.alloc (.cells #[.string a.nm, .string a.fd, .slice (some fad) a.fl.length fc] 38)) W → W.cell? ⟨wi.heap.size, 0, none⟩ = some (.string a.nm) ∧ W.cell? ⟨wi.heap.size, 1, none⟩ = some (.string a.fd) ∧ W.cell? ⟨wi.heap.size, 2, none⟩ = some (.slice (some fad) a.fl.length fc)) := fun W hW =>
          ⟨by rw [hW.cell (by simp)]; simp, by rw [hW.cell (by simp)]; simp, by rw [hW.cell (by simp)]; simp⟩
        have Hwi : Hid (∀ W : World, Below (wi.heap.size + 1) (wi.alloc (.cells #[.string a.nm, .string a.fd, .slice (some fad) a.fl.length fc] 38)) W → Below wi.heap.size wi W) := fun W hW => (below_alloc wi _).trans (hW.mono (by omega))
        go_loopw [7] (fun c wr => ∃ j : Nat, j ≤ a.fl.length ∧ c = .int .i64 j ∧ OwnPl wr (wi.heap.size + 1) (.slice (some ⟨wi.heap.size + 1, 0, none⟩) a.fl.length a.fl.length) (half a.fl a.fl.length j) ∧ Below (wi.heap.size + 1) (wi.alloc (.cells #[.string a.nm, .string a.fd, .slice (some fad) a.fl.length fc] 38)) wr) (fun c _ => a.fl.length - (intOf c).toNat)
        case atStart =>
          refine ⟨0, Nat.zero_le _, rfl, ?_, hb2⟩
          show World.ownsRow _ _ _ _ _ _ _
          rw [half_length _ _ _ rfl (Nat.zero_le _)]; exact hown2
        case round =>
          obtain ⟨j, hjl, rfl, hownf, hbelf⟩ := hrel
          clear hown2 hb2
          obtain ⟨z0, z1, z2⟩ := Hbox.out wr hbelf
          by_cases hjt : j < a.fl.length
          · obtain ⟨fb, foff, hfo, hcf⟩ := Hp.out (by omega)
            cases hfo
            have hbw := Hwi.out wr hbelf
            obtain ⟨p0, p1, p2⟩ := PlAt_later (hcf j hjt) hbw (World.block_lt_of_cell? _ _ (hcf j hjt).1)
            have hlh := half_length a.fl a.fl.length j rfl hjl
            have hrow : ∀ c, c < 3 → ∃ v, wr.cell? ⟨wi.heap.size + 1, j * 3 + c, none⟩ = some v := fun c hc3 => by
              have h : World.ownsRow _ _ _ _ _ _ _ := hownf
              rw [hlh] at h
              have hl := PlCells_length (half a.fl a.fl.length j)
              rw [hlh] at hl
              exact ⟨(PlCells (half a.fl a.fl.length j))[j * 3 + c]'(by omega), by rw [h.cellAt _ (by omega)]; exact List.getElem?_eq_getElem (by omega)⟩
            have hfr : ∀ c, wr.frozen? ⟨wi.heap.size + 1, j * 3 + c, none⟩ = false := fun c => by
              have h : World.ownsRow _ _ _ _ _ _ _ := hownf
              rw [hlh] at h
              exact h.frozenAt _
            obtain ⟨v0, o0⟩ : ∃ v, wr.cell? ⟨wi.heap.size + 1, j * 3, none⟩ = some v := hrow 0 (by omega)
            obtain ⟨v1, o1⟩ := hrow 1 (by omega)
            obtain ⟨v2, o2⟩ := hrow 2 (by omega)
            have f0 : wr.frozen? ⟨wi.heap.size + 1, j * 3, none⟩ = false := hfr 0
            have f1 := hfr 1
            have f2 := hfr 2
            have hgf : wi.heap.size + 1 < wr.heap.size := World.block_lt_of_cell? _ _ o0
            have hst := OwnPl_store (a.fl.getD j noPl) j hlh hjt hownf
            rw [half_step a.fl a.fl.length j rfl hjt] at hst
            have hbst := ((hbelf.setCell (p := ⟨wi.heap.size + 1, j * 3, none⟩) (Nat.le_refl _) (.int .i64 (a.fl.getD j noPl).k)).setCell (p := ⟨wi.heap.size + 1, j * 3 + 1, none⟩) (Nat.le_refl _) (.string (a.fl.getD j noPl).f)).setCell (p := ⟨wi.heap.size + 1, j * 3 + 2, none⟩) (Nat.le_refl _) (.string (a.fl.getD j noPl).s)
            have Hst := hid fun (ob : Obj) => OwnPl_later hst (below_alloc _ ob)
            have Hbst := hid fun (ob : Obj) => hbst.alloc (by simp; omega) ob
            have hfb : fb < wr.heap.size := World.block_lt_of_cell? _ _ p0
            have hfb1 : fb ≠ wi.heap.size + 1 := by have := World.block_lt_of_cell? _ _ (hcf j hjt).1; intro h; simp at this; omega
            clear hst hbst hrow hfr hownf hbelf hbw hcf HO HFz
            generalize a.fl.getD j noPl = p at *
            go_wp2
            go_roundw
            case rel => exact ⟨j + 1, by omega, by go_num, Hst.out _, Hbst.out _⟩
            case measure => simp [intOf]; omega
          · obtain rfl : j = a.fl.length := by omega
            rw [half_all _ _ rfl] at hownf
            obtain ⟨fo', fc', hvv, hpl', hne', _⟩ := OwnPl_form hownf
            cases hvv
            have hbw := Hwi.out wr hbelf
            obtain ⟨v0, o0⟩ : ∃ v, wr.cell? ⟨w.heap.size, i * 3, none⟩ = some v := by obtain ⟨v, h⟩ := HO 0 (by omega); exact ⟨v, by rw [hbw.cell (by exact hgw)]; exact h⟩
            obtain ⟨v1, o1⟩ : ∃ v, wr.cell? ⟨w.heap.size, i * 3 + 1, none⟩ = some v := by obtain ⟨v, h⟩ := HO 1 (by omega); exact ⟨v, by rw [hbw.cell (by exact hgw)]; exact h⟩
            obtain ⟨v2, o2⟩ : ∃ v, wr.cell? ⟨w.heap.size, i * 3 + 2, none⟩ = some v := by obtain ⟨v, h⟩ := HO 2 (by omega); exact ⟨v, by rw [hbw.cell (by exact hgw)]; exact h⟩
            have f0 : wr.frozen? ⟨w.heap.size, i * 3, none⟩ = false := by rw [hbw.frozen (by exact hgw)]; exact HFz 0
            have f1 : wr.frozen? ⟨w.heap.size, i * 3 + 1, none⟩ = false := by rw [hbw.frozen (by exact hgw)]; exact HFz 1
            have f2 : wr.frozen? ⟨w.heap.size, i * 3 + 2, none⟩ = false := by rw [hbw.frozen (by exact hgw)]; exact HFz 2
            obtain ⟨xs', hox, hfx⟩ := Filled_step (fo := some ⟨wi.heap.size + 1, 0, none⟩) (fc := a.fl.length) (B := w.heap.size) Hag.out hlt (owns_later Ho.out hbw) (Filled_later Hf.out hbw) hpl' (by simp) (by intro ad' had'; cases had'; simp; omega)
            have hbx := (((Hb.out.trans (hbw.mono hwsz)).setCell (p := ⟨w.heap.size, i * 3, none⟩) (Nat.le_refl _) (.string a.nm)).setCell (p := ⟨w.heap.size, i * 3 + 1, none⟩) (Nat.le_refl _) (.string a.fd)).setCell (p := ⟨w.heap.size, i * 3 + 2, none⟩) (Nat.le_refl _) (.slice (some ⟨wi.heap.size + 1, 0, none⟩) a.fl.length a.fl.length)
            have Hox := hid hox
            have Hfx := hid hfx
            have Hbx := hid hbx
            clear hox hfx hbx HO HFz hownf hbelf hbw hpl' hne'
            go_wp2
            exact ⟨⟨i + 1, xs', by omega, by go_num, Hox.out, Hfx.out, Hbx.out⟩, by simp [intOf]; omega⟩
    · obtain rfl : i = As.length := by omega
      go_wp2
      go_ret
      exact ⟨_, rfl, (hown.lt _ rfl).2, Filled_done rfl hown hfill, hbel⟩
end Go.Proofs.Qxb6628733a
