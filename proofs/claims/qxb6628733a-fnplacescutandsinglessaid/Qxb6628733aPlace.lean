import Derived.Test.Qxb6628733aLeaves
namespace Go.Proofs.Qxb6628733a
open Go.RowKit

theorem find_none {L : List Pl} {pr : Pl → Bool} (h : ∀ i, i < L.length → pr (L.getD i noPl) = false) : L.find? pr = none := by
  rw [List.find?_eq_none]
  intro x hx
  obtain ⟨i, hi, rfl⟩ := List.mem_iff_getElem.1 hx
  have := h i hi
  simp only [List.getD, List.getElem?_eq_getElem hi, Option.getD_some] at this
  simp [this]
theorem find_some {pr : Pl → Bool} : ∀ {L : List Pl} {j : Nat}, j < L.length → pr (L.getD j noPl) = true → (∀ i, i < j → pr (L.getD i noPl) = false) → L.find? pr = some (L.getD j noPl) := by
  intro L
  induction L with
  | nil => intro j h; simp at h
  | cons x L ih =>
    intro j hj hy hn
    cases j with
    | zero => have : pr x = true := by simpa using hy
              simp [this]
    | succ j =>
      have hx : pr x = false := by simpa using hn 0 (by omega)
      rw [List.find?_cons, hx]
      have h1 := ih (j := j) (by simpa using hj) (by simpa using hy) (fun i hi => by simpa using hn (i + 1) (by omega))
      simpa using h1
theorem reads_found {a : Ag} {k : Int} (hk : k ≠ 0) {r : Int} (h : Found a.fl (fun p => p.k == k) r) :
    (r = -1 ∧ reads a k = none) ∨ ∃ j : Nat, j < a.fl.length ∧ r = (j : Int) ∧ reads a k = some (a.fl.getD j noPl) := by
  unfold reads
  rw [if_neg hk]
  rcases h with ⟨h1, h2⟩ | ⟨j, h1, h2, h3, h4⟩
  · exact .inl ⟨h1, find_none h2⟩
  · exact .inr ⟨j, h1, h2, find_some h1 h3 h4⟩

theorem bcell {W w1 : World} (hb : Below W.heap.size W w1) : (∀ b o, b < W.heap.size → w1.cell? ⟨b, o, none⟩ = W.cell? ⟨b, o, none⟩) ∧ (∀ b o, b < W.heap.size → w1.frozen? ⟨b, o, none⟩ = W.frozen? ⟨b, o, none⟩) :=
  ⟨fun b o h => hb.cell (p := ⟨b, o, none⟩) h, fun b o h => hb.frozen (p := ⟨b, o, none⟩) h⟩

theorem three_alloc (w : World) (a b c : Obj) : Below w.heap.size w (((w.alloc a).alloc b).alloc c) :=
  (((Below.refl _ _).alloc (Nat.le_refl _) _).alloc (by simp) _).alloc (by simp; omega) _

def agV (a : Ag) (fo : Option Addr) (fc : Nat) : Value := .agg #[.string a.nm, .string a.fd, .slice fo a.fl.length fc]

set_option maxHeartbeats 400000 in
theorem place_any (a : Ag) (fo : Option Addr) (fc : Nat) (k : Int) (w : World) (hL : a.fl.length ≤ 2000000) (hp : PlsAt w fo a.fl) :
    Calls Try.prog 14 #[agV a fo fc, .int .i64 k] w fun e w' => e = .returned (.tuple #[plV ((reads a k).getD noPl), .bool (reads a k).isSome]) ∧ Below w.heap.size w w' := by
  unfold agV
  by_cases hk : k = 0
  · subst hk
    have Hr : Hid (reads a 0 = some ⟨0, a.fd, slash⟩) := if_pos rfl
    clear hp
    go_enter Try.func14, Try.ntmps14
    go_wp2_with fail
    refine (skill_any a.fd _).mono ?_
    rintro e w1 ⟨rfl, hb⟩
    unfold plV
    have hb' : Below w.heap.size w w1 := (three_alloc w _ _ _).trans (hb.mono (by simp; omega))
    have Hb' := hid hb'
    obtain ⟨hcc, hff⟩ := bcell hb
    have hz := hb.size
    clear hb hb'
    go_wp2
    exact bodyPost_ret (v := .tuple #[.agg #[.int .i64 0, .string a.fd, .string slash], .bool true]) (by simp [results, Try.results14, go_sem, hcc]) rfl ⟨by rw [Hr.out]; rfl, ((Hb'.out.setCell (by simp; omega) _).setCell (by simp; omega) _).setCell (by simp; omega) _⟩
  · have H := hid fun (W : World) (hW : PlsAt W fo a.fl) (b : Nat) (hc : W.cell? ⟨b, 0, none⟩ = some (.int .i64 k)) => idxKind fo fc a.fl k b W hL hW hc
    have hkb : (k == 0) = false := by simpa using hk
    have Hp := hid fun (W : World) (hb : Below w.heap.size w W) => PlsAt_later hp hb
    clear hp
    go_enter Try.func14, Try.ntmps14
    go_wp2_with fail
    have hck : (((w.alloc (.cells #[.string a.nm, .string a.fd, .slice fo a.fl.length fc] 41)).alloc (.cells #[.int .i64 k] 27)).alloc (.cells #[.int .i64 0, .string ⟨#[]⟩, .string ⟨#[]⟩] 33)).cell? ⟨w.heap.size + 1, 0, none⟩ = some (.int .i64 k) := by
      rw [World.cell?_alloc_lt _ _ _ (by simp)]; exact World.cell?_alloc_at _ _ _ _ (by simp)
    refine (H.out _ (Hp.out _ (three_alloc w (.cells #[.string a.nm, .string a.fd, .slice fo a.fl.length fc] 41) (.cells #[.int .i64 k] 27) (.cells #[.int .i64 0, .string ⟨#[]⟩, .string ⟨#[]⟩] 33))) (w.heap.size + 1) hck).mono ?_
    rintro e w1 ⟨⟨r, rfl, hf⟩, hb⟩
    have hb' : Below w.heap.size w w1 := (three_alloc w _ _ _).trans (hb.mono (by simp; omega))
    have Hb' := hid hb'
    have Hpl := hid (Hp.out w1 hb')
    obtain ⟨hcc, hff⟩ := bcell hb
    have hz := hb.size
    rcases reads_found hk hf with ⟨rfl, hr⟩ | ⟨j, hj, rfl, hr⟩
    · have Hr := hid hr
      clear hb hb' hr hf H Hp
      go_wp2
      exact bodyPost_ret (v := .tuple #[.agg #[.int .i64 0, .string ⟨#[]⟩, .string ⟨#[]⟩], .bool false]) (by simp [results, Try.results14, go_sem, hcc]) rfl ⟨by rw [Hr.out]; rfl, ((Hb'.out.setCell (by simp; omega) _).setCell (by simp; omega) _).setCell (by simp; omega) _⟩
    · have Hr := hid hr
      obtain ⟨bb, o, rfl, hcells⟩ := Hpl.out (by omega)
      obtain ⟨c0, c1, c2⟩ := hcells j hj
      clear hb hb' hr hf H Hp hcells Hpl
      generalize a.fl.getD j noPl = p at *
      go_wp2
      exact bodyPost_ret (v := .tuple #[.agg #[.int .i64 p.k, .string p.f, .string p.s], .bool true]) (by simp [results, Try.results14, go_sem, hcc]) rfl ⟨by rw [Hr.out]; rfl, ((Hb'.out.setCell (by simp; omega) _).setCell (by simp; omega) _).setCell (by simp; omega) _⟩
end Go.Proofs.Qxb6628733a
