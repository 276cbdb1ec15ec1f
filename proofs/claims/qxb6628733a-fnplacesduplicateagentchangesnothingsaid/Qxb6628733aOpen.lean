import Derived.Test.Qxb6628733aDupWalk
import Derived.Deep.Slices
import Derived.Deep.Strs
namespace Go.Proofs.Qxb6628733a
open Go.ChangeShapes Go.WideShapes Go.ChangeAt Go.RowKit Go.Deep

theorem own : ownKnob Try.prog.godebug = none := by kernel_rfl
theorem laidOut : laidOutB Try.prog = true := by kernel_rfl
theorem cells38 : Try.prog.cellsOf 38 = 3 := by kernel_rfl
theorem cells44 : Try.prog.cellsOf 44 = 3 := by kernel_rfl
theorem cells9 : Try.prog.cellsOf 9 = 1 := by kernel_rfl
theorem cells3 : Try.prog.cellsOf 3 = 1 := by kernel_rfl
theorem cells36 : Try.prog.cellsOf 36 = 1 := by kernel_rfl

variable {H : Type} {enc : TypeId × Value → H} {W : World} {base : Nat} {sp : Nat → Bool}

theorem three {α : Type} {l : List α} (h : l.length = 3) : ∃ a b c, l = [a, b, c] := by
  match l, h with
  | [a, b, c], _ => exact ⟨a, b, c, rfl⟩

/-- One place, read. -/
theorem open_pl {n : Nat} {cs : List Value} {x : DataW H × List MemPlace} (h : DataW.trod enc Try.prog W base sp true n 44 cs = some x) : ∃ p : Pl, cs = plCs p := by
  obtain ⟨y0, y1, y2, m, _, hl, h0, h1, h2⟩ := trod_struct3 Try.underlying44 h
  rw [cells44] at hl
  obtain ⟨a, b, c, rfl⟩ := three hl
  simp only [cells3, cells9] at h0 h1 h2
  obtain ⟨k, e0, _, _⟩ := DataW.trod_int Try.underlying3 h0
  obtain ⟨f, e1, _, _⟩ := DataW.trod_string Try.underlying9 h1
  obtain ⟨s, e2, _, _⟩ := DataW.trod_string Try.underlying9 h2
  simp at e0 e1 e2
  exact ⟨⟨k, f, s⟩, by rw [e0, e1, e2]; rfl⟩

theorem open_pls {fuel : Nat} {v : Value} {x : DataW H × List MemPlace} (h : DataW.trod enc Try.prog W base sp true fuel 36 [v] = some x) :
    ∃ fo fc, ∃ L : List Pl, v = .slice fo L.length fc ∧ PlsAt W fo L ∧ (fo = none → L = []) := by
  haveI : Inhabited Pl := ⟨noPl⟩
  rcases open_slice Try.underlying36 h with ⟨hcs, _⟩ | ⟨a, len, cap, m, n, D, Q, hcs, _, hl, hm, hmm, _, hx⟩
  · simp at hcs
    exact ⟨none, 0, [], hcs, PlsAt_nil _ _, fun _ => rfl⟩
  · simp at hcs
    have hlm : len ≤ m := by rw [hmm]; split <;> omega
    rw [cells44] at hx
    obtain ⟨V, hV⟩ := choose_lt (α := Pl) (n := len) (p := fun i p => W.cells? base (a.add (i * 3)) 3 = some (plCs p)) (fun i hi => by
      obtain ⟨cs', h1, h2⟩ := hx i (by omega)
      obtain ⟨p, rfl⟩ := open_pl h2
      exact ⟨p, h1⟩)
    refine ⟨some a, cap, (List.range len).map V, by rw [hcs]; simp, ?_, by simp⟩
    intro hp
    simp at hp
    obtain ⟨b, o, spot⟩ := a
    have h0 := (World.cells?_some (hV 0 hp)).2.2 0 (by omega)
    have hspot : spot = none := by
      have := World.cell?_spot (h0.trans (show (plCs (V 0))[0]? = some _ from rfl))
      simpa [Addr.add] using this
    subst hspot
    refine ⟨b, o, rfl, fun j hj => ?_⟩
    simp at hj
    have hc := (World.cells?_some (hV j hj)).2.2
    have e : ((List.range len).map V).getD j noPl = V j := by simp [List.getD, hj]
    rw [e]
    simp only [Addr.add_lit] at hc
    exact ⟨hc 0 (by omega), hc 1 (by omega), hc 2 (by omega)⟩

/-- One agent, read. -/
theorem open_ag {n : Nat} {cs : List Value} {x : DataW H × List MemPlace} (h : DataW.trod enc Try.prog W base sp true n 38 cs = some x) :
    ∃ (a : Ag) (fo : Option Addr) (fc : Nat), cs = [.string a.nm, .string a.fd, .slice fo a.fl.length fc] ∧ PlsAt W fo a.fl ∧ (fo = none → a.fl = []) := by
  obtain ⟨y0, y1, y2, m, _, hl, h0, h1, h2⟩ := trod_struct3 Try.underlying38 h
  rw [cells38] at hl
  obtain ⟨a, b, c, rfl⟩ := three hl
  simp only [cells9, cells36] at h0 h1 h2
  obtain ⟨f, e1, _, _⟩ := DataW.trod_string Try.underlying9 h0
  obtain ⟨s, e2, _, _⟩ := DataW.trod_string Try.underlying9 h1
  have h2' : DataW.trod enc Try.prog W base sp true m 36 [c] = some y2 := h2
  obtain ⟨fo, fc, L, rfl, hp, hn⟩ := open_pls h2'
  simp at e1 e2
  exact ⟨⟨f, s, L⟩, fo, fc, by rw [e1, e2], hp, hn⟩

theorem open_ags {ao : Option Addr} {len cap : Nat} {d : DataW H} {p : List MemPlace} (h : DataW.Trod enc Try.prog W base sp true 22 (.slice ao len cap) d p) :
    ∃ As : List Ag, As.length = len ∧ len ≤ maxLen ∧ AgsAt W ao As ∧ (ao = none → cap = 0 ∧ As = []) := by
  haveI : Inhabited Ag := ⟨noAg⟩
  obtain ⟨fuel, hf⟩ := h
  rcases open_slice Try.underlying22 hf with ⟨hcs, _⟩ | ⟨a, len', cap', m, n, D, Q, hcs, _, hl, hm, hmm, _, hx⟩
  · simp [Value.cells] at hcs
    obtain ⟨rfl, rfl, rfl⟩ := hcs
    exact ⟨[], rfl, Nat.zero_le _, AgsAt_nil _ _, fun _ => ⟨rfl, rfl⟩⟩
  · simp [Value.cells] at hcs
    obtain ⟨rfl, rfl, rfl⟩ := hcs
    have hlm : len ≤ m := by rw [hmm]; split <;> omega
    rw [cells38] at hx
    obtain ⟨V, hV⟩ := choose_lt (α := Ag) (n := len) (p := fun i q => ∃ (fo : Option Addr) (fc : Nat), W.cells? base (a.add (i * 3)) 3 = some [.string q.nm, .string q.fd, .slice fo q.fl.length fc] ∧ PlsAt W fo q.fl ∧ (fo = none → q.fl = [])) (fun i hi => by
      obtain ⟨cs', h1, h2⟩ := hx i (by omega)
      obtain ⟨q, fo, fc, rfl, hp, hn⟩ := open_ag h2
      exact ⟨q, fo, fc, h1, hp, hn⟩)
    refine ⟨(List.range len).map V, by simp, by omega, ?_, by simp⟩
    intro hp
    simp at hp
    obtain ⟨b, o, spot⟩ := a
    obtain ⟨fo0, fc0, hc0, _⟩ := hV 0 hp
    have h0 := (World.cells?_some hc0).2.2 0 (by omega)
    have hspot : spot = none := by
      have := World.cell?_spot (h0.trans (show ([Value.string (V 0).nm, .string (V 0).fd, .slice fo0 (V 0).fl.length fc0])[0]? = some _ from rfl))
      simpa [Addr.add] using this
    subst hspot
    refine ⟨b, o, rfl, fun j hj => ?_⟩
    simp at hj
    obtain ⟨fo, fc, hcc, hpp, hnn⟩ := hV j hj
    have hc := (World.cells?_some hcc).2.2
    have e : ((List.range len).map V).getD j noAg = V j := by simp [List.getD, hj]
    rw [e]
    simp only [Addr.add_lit] at hc
    exact ⟨hc 0 (by omega), hc 1 (by omega), fo, fc, hc 2 (by omega), hpp, hnn⟩

theorem cut_any (ao : Option Addr) (cap : Nat) (As : List Ag) (k c : Int) (w : World) (hm : As.length ≤ maxLen) (hA : AgsAt w ao As) (hn : ao = none → cap = 0 ∧ As = []) :
    Calls Try.prog 3 #[.slice ao As.length cap, .int .i64 k, .int .i64 c] w fun e w' => e = .returned (.bool true) ∧ Below w.heap.size w w' := by
  cases ao with
  | none => obtain ⟨rfl, rfl⟩ := hn rfl; exact cut_nil k c w
  | some ad => exact cut_row ad cap As k c w hm hA
theorem dup_any (ao : Option Addr) (cap : Nat) (As : List Ag) (k s p : Int) (w : World) (hm : As.length ≤ maxLen) (hA : AgsAt w ao As) (hn : ao = none → cap = 0 ∧ As = []) :
    Calls Try.prog 4 #[.slice ao As.length cap, .int .i64 k, .int .i64 s, .int .i64 p] w fun e w' => e = .returned (.bool true) ∧ Below w.heap.size w w' := by
  by_cases hbad : s < 0 ∨ p ≤ s ∨ ((As.length : Nat) : Int) < p
  · exact dup_early ao _ cap As k s p w rfl hm hA hbad
  · cases ao with
    | none => obtain ⟨rfl, rfl⟩ := hn rfl; exfalso; simp at hbad; omega
    | some ad =>
      obtain ⟨S, rfl⟩ := Int.eq_ofNat_of_zero_le (show 0 ≤ s by omega)
      obtain ⟨P, rfl⟩ := Int.eq_ofNat_of_zero_le (show 0 ≤ p by omega)
      exact dup_row ad cap As k S P w hm (by omega) (by omega) hA
end Go.Proofs.Qxb6628733a
