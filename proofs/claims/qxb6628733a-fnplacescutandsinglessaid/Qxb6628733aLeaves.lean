import Derived.Test.Qxb6628733aRows
import Derived.Test.Qxb6628733aPlain
import Derived.WalkKit
import Derived.ProofKit
import Derived.OpenShut
import Derived.ShutString
import Derived.ChangeOld
import Derived.Below
import Derived.WalkSpells
import Derived.WalkLawsBesides
import Derived.WalkSmall
import Derived.Maps.AppendAt
import Derived.BigRegion
import Derived.Deep.QuietTactic
import Derived.BigQuiet
import Derived.Deep.DeepCutAuto
namespace Go.Proofs.Qxb6628733a
open Go.RowKit

theorem hid {p : Prop} (h : p) : Hid p := h
theorem ret_int {k : IntKind} {a b : Int} (h : a = b) : Ending.returned (.int k a) = .returned (.int k b) := by rw [h]
theorem ret_bool {a b : Bool} (h : a = b) : Ending.returned (.bool a) = .returned (.bool b) := by rw [h]

def plV (p : Pl) : Value := .agg #[.int .i64 p.k, .string p.f, .string p.s]
/-- The place p lies at offset o of block b. -/
def PlAt (w : World) (b o : Nat) (p : Pl) : Prop :=
  w.cell? ⟨b, o, none⟩ = some (.int .i64 p.k) ∧ w.cell? ⟨b, o + 1, none⟩ = some (.string p.f) ∧ w.cell? ⟨b, o + 2, none⟩ = some (.string p.s)
/-- The places L lie where the slice leads. -/
def PlsAt (w : World) (fo : Option Addr) (L : List Pl) : Prop :=
  0 < L.length → ∃ b o, fo = some ⟨b, o, none⟩ ∧ ∀ j, j < L.length → PlAt w b (o + j * 3) (L.getD j noPl)

theorem PlAt_later {w w' : World} {b o : Nat} {p : Pl} {B : Nat} (h : PlAt w b o p) (hb : Below B w w') (hB : b < B) : PlAt w' b o p :=
  ⟨by rw [hb.cell (by exact hB)]; exact h.1, by rw [hb.cell (by exact hB)]; exact h.2.1, by rw [hb.cell (by exact hB)]; exact h.2.2⟩
theorem PlsAt_later {w w' : World} {fo : Option Addr} {L : List Pl} (h : PlsAt w fo L) (hb : Below w.heap.size w w') : PlsAt w' fo L := fun hp => by
  obtain ⟨b, o, rfl, hc⟩ := h hp
  exact ⟨b, o, rfl, fun j hj => PlAt_later (hc j hj) hb (World.block_lt_of_cell? _ _ (hc j hj).1)⟩

theorem foldEq_any (p : Pl) (pf : ByteArray) (b : Nat) (w : World) (hc : w.cell? ⟨b, 1, none⟩ = some (.string pf)) :
    Calls Try.prog 16 #[plV p, .pointer (some ⟨b, 0, none⟩)] w fun e w' => e = .returned (.bool (p.f.toList == pf.toList)) ∧ Below w.heap.size w w' := by
  have hb := World.block_lt_of_cell? _ _ hc
  unfold plV
  go_enter Try.func16, Try.ntmps16
  go_wp2
  go_ret
  exact ⟨rfl, (Below.refl _ _).alloc (Nat.le_refl _) _⟩
theorem kindEq_any (p : Pl) (q : Int) (b : Nat) (w : World) (hc : w.cell? ⟨b, 0, none⟩ = some (.int .i64 q)) :
    Calls Try.prog 19 #[plV p, .pointer (some ⟨b, 0, none⟩)] w fun e w' => e = .returned (.bool (p.k == q)) ∧ Below w.heap.size w w' := by
  have hb := World.block_lt_of_cell? _ _ hc
  unfold plV
  go_enter Try.func19, Try.ntmps19
  go_wp2
  go_ret
  exact ⟨rfl, (Below.refl _ _).alloc (Nat.le_refl _) _⟩
theorem skill_any (f : ByteArray) (w : World) :
    Calls Try.prog 17 #[.string f] w fun e w' => e = .returned (plV ⟨0, f, slash⟩) ∧ Below w.heap.size w w' := by
  go_enter Try.func17, Try.ntmps17
  go_wp2
  exact bodyPost_ret (v := .agg #[.int .i64 0, .string f, .string slash]) (by simp [results, Try.results17, go_sem, slash]) rfl ⟨rfl, (Below.refl _ _).alloc (Nat.le_refl _) _⟩

/-- What a search over L says. -/
def Found (L : List Pl) (pr : Pl → Bool) (r : Int) : Prop :=
  (r = -1 ∧ ∀ i, i < L.length → pr (L.getD i noPl) = false) ∨ ∃ j : Nat, j < L.length ∧ r = (j : Int) ∧ pr (L.getD j noPl) = true ∧ ∀ i, i < j → pr (L.getD i noPl) = false

set_option maxHeartbeats 400000 in
theorem idxKind (fo : Option Addr) (cap : Nat) (L : List Pl) (q : Int) (b : Nat) (w : World) (hL : L.length ≤ 2000000) (hp : PlsAt w fo L) (hc : w.cell? ⟨b, 0, none⟩ = some (.int .i64 q)) :
    Calls Try.prog 18 #[.slice fo L.length cap, .func (.func 19) #[] #[.pointer (some ⟨b, 0, none⟩)]] w fun e w' => (∃ r : Int, e = .returned (.int .i64 r) ∧ Found L (fun p => p.k == q) r) ∧ Below w.heap.size w w' := by
  go_enter Try.func18, Try.ntmps18
  go_wp2
  go_loopw [8] (fun i wr => ∃ j : Nat, j ≤ L.length ∧ i = .int .i64 j ∧ (∀ i', i' < j → (fun p : Pl => p.k == q) (L.getD i' noPl) = false) ∧ Below w.heap.size w wr) (fun i _ => L.length - (intOf i).toNat)
  case atStart => exact ⟨0, Nat.zero_le _, rfl, fun i' h => by omega, Below.refl _ _⟩
  case round =>
    obtain ⟨j, hj, rfl, hno, hbel⟩ := hrel
    by_cases hlt : j < L.length
    · obtain ⟨bb, o, rfl, hcells⟩ := hp (by omega)
      obtain ⟨c0, c1, c2⟩ := PlAt_later (hcells j hlt) hbel (World.block_lt_of_cell? _ _ (hcells j hlt).1)
      have hq : wr.cell? ⟨b, 0, none⟩ = some (.int .i64 q) := by rw [hbel.cell (World.block_lt_of_cell? _ _ hc)]; exact hc
      have Hk := hid (kindEq_any (L.getD j noPl) q b wr hq)
      have Hno := hid hno
      have Hb := hid hbel
      have HBs := hbel.size
      clear hno hbel hcells hp
      cases hres : (fun p : Pl => p.k == q) (L.getD j noPl) with
      | true =>
        have HF := hid (show Found L (fun p => p.k == q) (j : Int) from .inr ⟨j, hlt, rfl, hres, Hno.out⟩)
        have hres' : ((L.getD j noPl).k == q) = true := hres
        rw [hres'] at Hk
        clear hres hres' Hno
        generalize L.getD j noPl = p at *
        go_wp2_with fail
        refine Hk.out.mono ?_
        rintro e w1 ⟨rfl, hb1⟩
        have Hb1 := hid hb1
        clear hb1
        go_wp2
        go_ret
        exact ⟨⟨_, rfl, HF.out⟩, Hb.out.trans (Hb1.out.mono HBs)⟩
      | false =>
        have Hres := hid hres
        have hres' : ((L.getD j noPl).k == q) = false := hres
        rw [hres'] at Hk
        clear hres hres'
        have Hall : Hid (∀ i', i' < j + 1 → (fun p : Pl => p.k == q) (L.getD i' noPl) = false) := fun i' hi' => by
          by_cases h : i' < j
          · exact Hno.out i' h
          · obtain rfl : i' = j := by omega
            exact Hres.out
        clear Hno Hres
        generalize L.getD j noPl = p at *
        go_wp2_with fail
        refine Hk.out.mono ?_
        rintro e w1 ⟨rfl, hb1⟩
        have Hb1 := hid hb1
        clear hb1
        go_wp2
        go_roundw
        case rel => exact ⟨j + 1, by omega, by go_num, Hall.out, Hb.out.trans (Hb1.out.mono HBs)⟩
        case measure => simp [intOf]; omega
    · go_wp2
      go_ret
      exact ⟨⟨_, rfl, .inl ⟨rfl, fun i hi => hno i (by omega)⟩⟩, hbel⟩

set_option maxHeartbeats 400000 in
theorem idxFold (fo : Option Addr) (cap : Nat) (L : List Pl) (pf : ByteArray) (b : Nat) (w : World) (hL : L.length ≤ 2000000) (hp : PlsAt w fo L) (hc : w.cell? ⟨b, 1, none⟩ = some (.string pf)) :
    Calls Try.prog 18 #[.slice fo L.length cap, .func (.func 16) #[] #[.pointer (some ⟨b, 0, none⟩)]] w fun e w' => (∃ r : Int, e = .returned (.int .i64 r) ∧ Found L (fun p => p.f.toList == pf.toList) r) ∧ Below w.heap.size w w' := by
  go_enter Try.func18, Try.ntmps18
  go_wp2
  go_loopw [8] (fun i wr => ∃ j : Nat, j ≤ L.length ∧ i = .int .i64 j ∧ (∀ i', i' < j → (fun p : Pl => p.f.toList == pf.toList) (L.getD i' noPl) = false) ∧ Below w.heap.size w wr) (fun i _ => L.length - (intOf i).toNat)
  case atStart => exact ⟨0, Nat.zero_le _, rfl, fun i' h => by omega, Below.refl _ _⟩
  case round =>
    obtain ⟨j, hj, rfl, hno, hbel⟩ := hrel
    by_cases hlt : j < L.length
    · obtain ⟨bb, o, rfl, hcells⟩ := hp (by omega)
      obtain ⟨c0, c1, c2⟩ := PlAt_later (hcells j hlt) hbel (World.block_lt_of_cell? _ _ (hcells j hlt).1)
      have hq : wr.cell? ⟨b, 1, none⟩ = some (.string pf) := by rw [hbel.cell (World.block_lt_of_cell? _ _ hc)]; exact hc
      have Hk := hid (foldEq_any (L.getD j noPl) pf b wr hq)
      have Hno := hid hno
      have Hb := hid hbel
      have HBs := hbel.size
      clear hno hbel hcells hp
      cases hres : (fun p : Pl => p.f.toList == pf.toList) (L.getD j noPl) with
      | true =>
        have HF := hid (show Found L (fun p => p.f.toList == pf.toList) (j : Int) from .inr ⟨j, hlt, rfl, hres, Hno.out⟩)
        have hres' : ((L.getD j noPl).f.toList == pf.toList) = true := hres
        rw [hres'] at Hk
        clear hres hres' Hno
        generalize L.getD j noPl = p at *
        go_wp2_with fail
        refine Hk.out.mono ?_
        rintro e w1 ⟨rfl, hb1⟩
        have Hb1 := hid hb1
        clear hb1
        go_wp2
        go_ret
        exact ⟨⟨_, rfl, HF.out⟩, Hb.out.trans (Hb1.out.mono HBs)⟩
      | false =>
        have Hres := hid hres
        have hres' : ((L.getD j noPl).f.toList == pf.toList) = false := hres
        rw [hres'] at Hk
        clear hres hres'
        have Hall : Hid (∀ i', i' < j + 1 → (fun p : Pl => p.f.toList == pf.toList) (L.getD i' noPl) = false) := fun i' hi' => by
          by_cases h : i' < j
          · exact Hno.out i' h
          · obtain rfl : i' = j := by omega
            exact Hres.out
        clear Hno Hres
        generalize L.getD j noPl = p at *
        go_wp2_with fail
        refine Hk.out.mono ?_
        rintro e w1 ⟨rfl, hb1⟩
        have Hb1 := hid hb1
        clear hb1
        go_wp2
        go_roundw
        case rel => exact ⟨j + 1, by omega, by go_num, Hall.out, Hb.out.trans (Hb1.out.mono HBs)⟩
        case measure => simp [intOf]; omega
    · go_wp2
      go_ret
      exact ⟨⟨_, rfl, .inl ⟨rfl, fun i hi => hno i (by omega)⟩⟩, hbel⟩

theorem contains_any (fo : Option Addr) (cap : Nat) (L : List Pl) (p : Pl) (b : Nat) (w : World) (hL : L.length ≤ 2000000) (hp : PlsAt w fo L) (hc : w.cell? ⟨b, 1, none⟩ = some (.string p.f)) :
    Calls Try.prog 15 #[.slice fo L.length cap, .func (.func 16) #[] #[.pointer (some ⟨b, 0, none⟩)]] w fun e w' => e = .returned (.bool (holds L p)) ∧ Below w.heap.size w w' := by
  have H := hid (idxFold fo cap L p.f b w hL hp hc)
  clear hp hc
  go_enter Try.func15, Try.ntmps15
  go_wp2_with fail
  refine H.out.mono ?_
  rintro e w1 ⟨⟨r, rfl, hf⟩, hb⟩
  have Hb := hid hb
  clear hb H
  rcases hf with ⟨rfl, hall⟩ | ⟨j, hj, rfl, hyes, _⟩
  · have He : Hid (holds L p = false) := by
      show _ = _
      rw [Bool.eq_false_iff]
      intro h
      obtain ⟨q, hq, hs⟩ := (holds_iff _ _).1 h
      obtain ⟨i, hi, rfl⟩ := List.mem_iff_getElem.1 hq
      have := hall i hi
      simp only [List.getD, List.getElem?_eq_getElem hi, Option.getD_some] at this
      rw [show (L[i].f.toList == p.f.toList) = same L[i] p from rfl, hs] at this
      cases this
    clear hall
    go_wp2
    go_ret
    exact ⟨ret_bool He.out.symm, Hb.out⟩
  · have He : Hid (holds L p = true) := by
      refine (holds_iff _ _).2 ⟨L.getD j noPl, ?_, hyes⟩
      simp [List.getD, List.getElem?_eq_getElem hj]
    clear hyes
    go_wp2
    go_ret
    exact ⟨ret_bool He.out.symm, Hb.out⟩
end Go.Proofs.Qxb6628733a
