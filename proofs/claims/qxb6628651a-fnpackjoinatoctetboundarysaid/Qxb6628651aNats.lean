import Derived.OpenShut
namespace Go.Proofs.Qxb6628651a
open Go.RowKit

/-- Numbers of kind u8, as natural numbers. -/
theorem nats_lt {zs : List Int} (h : ∀ n ∈ zs, (Lit.int .u8 n).wf = true) (len : Nat) : ∀ i, ((zs.take len).map Int.toNat).getD i 0 < 256 := by
  intro i
  by_cases hi : i < ((zs.take len).map Int.toNat).length
  · have e : ((zs.take len).map Int.toNat).getD i 0 = ((zs.take len).map Int.toNat)[i] := by simp only [List.getD, List.getElem?_eq_getElem hi, Option.getD_some]
    rw [e]
    have hm := List.getElem_mem hi
    obtain ⟨n, hn, he⟩ := List.mem_map.1 hm
    have := bounds_u8 (h n (List.mem_of_mem_take hn))
    omega
  · have e : ((zs.take len).map Int.toNat).getD i 0 = 0 := by simp only [List.getD, List.getElem?_eq_none (Nat.le_of_not_lt hi), Option.getD_none]
    rw [e]; omega

theorem nats_get {zs : List Int} (h : ∀ n ∈ zs, (Lit.int .u8 n).wf = true) (len i : Nat) (hi : i < len) (hz : len ≤ zs.length) :
    ((((zs.take len).map Int.toNat).getD i 0 : Nat) : Int) = zs.getD i 0 := by
  have hi' : i < zs.length := by omega
  have e : ((zs.take len).map Int.toNat).getD i 0 = (zs[i]).toNat := by simp [List.getD, hi, hi']
  have e2 : zs.getD i 0 = zs[i] := by simp [List.getD, hi']
  rw [e, e2]
  have := bounds_u8 (h zs[i] (List.getElem_mem hi'))
  omega

end Go.Proofs.Qxb6628651a
