import Derived.Test.Qxb6628685aRefuse
import Derived.Test.Qxb6628685aRows
namespace Go.Proofs.Qxb6628685a
open Go.ChangeShapes Go.WideShapes Go.ChangeAt Go.RowKit

theorem own : ownKnob Try.prog.godebug = none := by kernel_rfl
theorem laidOut : laidOutB Try.prog = true := by kernel_rfl
theorem cells5 : Try.prog.cellsOf 5 = 1 := by kernel_rfl
theorem cells22 : Try.prog.cellsOf 22 = 16 := by kernel_rfl

/-- Sixteen bytes by value, opened. -/
theorem open_pre {H : Type} {enc : TypeId × Value → H} {W : World} {base b0 : Nat} {sp : Nat → Bool} {held : Bool} {r : Reach} {v : Value} {d : DataW H} {p : List MemPlace}
    (hv : Value.okWide Try.prog W r b0 22 v) (h : DataW.Trod enc Try.prog W base sp held 22 v d p) :
    ∃ pre : List Nat, v = .agg (Cells8 pre).toArray ∧ pre.length = 16 ∧ ∀ i, pre.getD i 0 < 256 := by
  simp only [Value.okWide, Try.underlying22] at hv
  obtain ⟨cs, rfl, hsz, _⟩ := hv
  obtain ⟨fuel, hf⟩ := h
  obtain ⟨xs, m, _, _, _, hxl, hx⟩ := DataW.trod_array Try.underlying22 hf
  rw [cells22] at hsz
  have key : ∀ i, i < 16 → ∃ z : Nat, z < 256 ∧ cs.toList[i]? = some (.int .u8 (z : Int)) := by
    intro i hi
    have h1 := hx i hi
    rw [cells5, Nat.mul_one, List.getElem?_eq_getElem (show i < xs.length by omega)] at h1
    obtain ⟨n, hn, _, hwf⟩ := DataW.trod_int Try.underlying5 h1
    have hb := bounds_u8 hwf
    refine ⟨n.toNat, by omega, ?_⟩
    have e : cs.toList[i]? = ((cs.toList.drop i).take 1)[0]? := by simp
    rw [e]
    have hn' : (cs.toList.drop i).take 1 = [.int .u8 n] := hn
    rw [hn']
    simp; omega
  refine ⟨cs.toList.map (fun v => match v with | .int _ z => z.toNat | _ => 0), ?_, by simp [hsz], ?_⟩
  · congr 1
    apply Array.ext'
    apply List.ext_getElem?
    intro i
    by_cases hi : i < 16
    · obtain ⟨z, hz, hc⟩ := key i hi
      simp only [Cells8, List.map_map, List.getElem?_map, hc]
      simp
    · rw [List.getElem?_eq_none (by simp; omega), List.getElem?_eq_none (by simp [Cells8]; omega)]
  · intro i
    by_cases hi : i < 16
    · obtain ⟨z, hz, hc⟩ := key i hi
      have e : (cs.toList.map (fun v => match v with | .int _ z => z.toNat | _ => 0)).getD i 0 = z := by
        simp only [List.getD, List.getElem?_map, hc]; simp
      rw [e]; exact hz
    · have e : (cs.toList.map (fun v => match v with | .int _ z => z.toNat | _ => 0)).getD i 0 = 0 := by
        simp only [List.getD]; rw [List.getElem?_eq_none (by simp; omega)]; rfl
      rw [e]; omega

/-- A slice of bytes that came in, opened. -/
theorem open_tail {H : Type} {enc : TypeId × Value → H} {W : World} {base : Nat} {sp : Nat → Bool} {ao : Option Addr} {len cap : Nat} {d : DataW H} {p : List MemPlace}
    (h : DataW.Trod enc Try.prog W base sp true 24 (.slice ao len cap) d p) :
    ∃ T : List Nat, T.length = len ∧ (∀ i, T.getD i 0 < 256) ∧ SrcT W ao T := by
  obtain ⟨fuel, hf⟩ := h
  rcases open_ints Try.underlying24 Try.underlying5 cells5 hf with ⟨hcs, _⟩ | ⟨x, l, c, zs, hcs, _, hl, hm, hz, _, hcell, hwz⟩
  · simp [Value.cells] at hcs
    obtain ⟨rfl, rfl, rfl⟩ := hcs
    exact ⟨[], rfl, fun i => by simp, fun h => by simp at h⟩
  · simp [Value.cells] at hcs
    obtain ⟨rfl, rfl, rfl⟩ := hcs
    have hzl : len ≤ zs.length := by rw [hz]; split <;> omega
    have hlen : ((zs.take len).map Int.toNat).length = len := by simp; omega
    have hget : ∀ i, i < len → ((((zs.take len).map Int.toNat).getD i 0 : Nat) : Int) = zs.getD i 0 := by
      intro i hi
      have hi' : i < zs.length := by omega
      have e : ((zs.take len).map Int.toNat).getD i 0 = (zs[i]).toNat := by simp [List.getD, hi, hi']
      have e2 : zs.getD i 0 = zs[i] := by simp [List.getD, hi']
      rw [e, e2]
      have := bounds_u8 (hwz zs[i] (List.getElem_mem hi'))
      omega
    refine ⟨(zs.take len).map Int.toNat, hlen, ?_, ?_⟩
    · intro i
      by_cases hi : i < len
      · have h1 := hget i hi
        have hi' : i < zs.length := by omega
        have e2 : zs.getD i 0 = zs[i] := by simp [List.getD, hi']
        have := bounds_u8 (hwz zs[i] (List.getElem_mem hi'))
        omega
      · have e : ((zs.take len).map Int.toNat).getD i 0 = 0 := by
          simp only [List.getD, List.getElem?_eq_none (show ((zs.take len).map Int.toNat).length ≤ i by omega), Option.getD_none]
        rw [e]; omega
    · intro hp
      rw [hlen] at hp
      obtain ⟨b, off, spot⟩ := x
      have hspot : spot = none := by simpa [Addr.add] using World.cell?_spot (hcell 0 (by omega))
      subst hspot
      refine ⟨b, off, rfl, fun i hi => ?_⟩
      rw [hlen] at hi
      rw [hget i hi, ← Addr.add_lit]
      exact hcell i (by omega)

theorem acc_any (pre : List Nat) (doc data next : Nat) (ao : Option Addr) (tcap : Nat) (T : List Nat) (k : Int) (w : World) (hp : pre.length = 16) (hp8 : ∀ i, pre.getD i 0 < 256) (hT8 : ∀ i, T.getD i 0 < 256) (hdoc : doc < 4294967296) (hdata : data < 4294967296) (hnext : next < 4294967296)
    (hsrc : SrcT w ao T) :
    Calls Try.prog 3 #[.agg (Cells8 pre).toArray, .int .u32 (doc : Int), .int .u32 (data : Int), .int .u32 (next : Int), .slice ao T.length tcap, .int .i64 k] w fun e w' =>
      e = .returned (.bool true) ∧ Below w.heap.size w w' := by
  by_cases h : 1048576 < T.length
  · exact acc_over pre _ _ _ ao T.length tcap k w hp h
  · exact acc_main pre doc data next ao tcap T k w hp hp8 hT8 hdoc hdata hnext (by omega) hsrc

theorem ref_any (pre : List Nat) (doc data next : Nat) (ao : Option Addr) (tcap : Nat) (T : List Nat) (k : Int) (c : Nat) (w : World) (hp : pre.length = 16) (hp8 : ∀ i, pre.getD i 0 < 256) (hT8 : ∀ i, T.getD i 0 < 256) (hdoc : doc < 4294967296) (hdata : data < 4294967296) (hnext : next < 4294967296)
    (hc : c < 256) (hsrc : SrcT w ao T) :
    Calls Try.prog 4 #[.agg (Cells8 pre).toArray, .int .u32 (doc : Int), .int .u32 (data : Int), .int .u32 (next : Int), .slice ao T.length tcap, .int .i64 k, .int .u8 (c : Int)] w fun e w' =>
      e = .returned (.bool true) ∧ Below w.heap.size w w' := by
  by_cases h : 1048576 < T.length
  · exact ref_over pre _ _ _ ao T.length tcap k _ w hp h
  · exact ref_main pre doc data next ao tcap T k c w hp hp8 hT8 hdoc hdata hnext hc (by omega) hsrc

end Go.Proofs.Qxb6628685a
