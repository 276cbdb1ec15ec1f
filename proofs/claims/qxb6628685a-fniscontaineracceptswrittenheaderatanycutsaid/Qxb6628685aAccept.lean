import Derived.Test.Qxb6628685aParse
namespace Go.Proofs.Qxb6628685a
open Go.RowKit

theorem isCont_hdr (H : List Nat) (h : 47 ≤ H.length) : isCont H = hdrOk (fun j => H.getD (16 + j) 0) := by
  rw [Bool.eq_iff_iff, isCont_iff, hdrOk_iff]
  constructor
  · intro hh q hq; exact hh.2 (16 + q) (by omega)
  · intro hh
    refine ⟨h, fun p hp => ?_⟩
    by_cases h16 : p < 16
    · simp [allowed, h16]
    · have := hh (p - 16) (by omega)
      rw [show 16 + (p - 16) = p by omega] at this; exact this

theorem isCont_short (H : List Nat) (h : H.length < 47) : isCont H = false := by
  rw [Bool.eq_false_iff]; intro hh; rw [isCont_iff] at hh; omega

set_option maxHeartbeats 400000 in
theorem isContainer_any (g n cap : Nat) (H : List Nat) (w : World) (hn : H.length = n) (hncap : n ≤ cap) (hcap : cap ≤ 4000000) (hH : ∀ i, H.getD i 0 < 256) (hc : ∀ i, i < n → w.cell? ⟨g, i, none⟩ = some (.int .u8 ((H.getD i 0 : Nat) : Int))) :
    Calls Try.prog 7 #[.slice (some ⟨g, 0, none⟩) n cap] w fun e w' => e = .returned (.bool (isCont H)) ∧ Below w.heap.size w w' := by
  by_cases h47 : n < 47
  · have Hs := hid (isCont_short H (by omega))
    clear hc hH hn
    go_enter Try.func7, Try.ntmps7
    go_wp2
    go_ret
    exact ⟨ret_bool Hs.out.symm, Below.refl _ _⟩
  · have Hs := hid (isCont_hdr H (by omega))
    have Hp := hid (fun (W : World) (hW : ∀ j, j < 31 → W.cell? ⟨g, 16 + j, none⟩ = some (.int .u8 ((H.getD (16 + j) 0 : Nat) : Int))) => parse_any g 16 (cap - 16) (fun j => H.getD (16 + j) 0) W (fun j => hH _) (by omega) hW)
    have Hc : Hid (∀ j, j < 31 → w.cell? ⟨g, 16 + j, none⟩ = some (.int .u8 ((H.getD (16 + j) 0 : Nat) : Int))) := fun j hj => hc (16 + j) (by omega)
    clear hc hH hn
    go_enter Try.func7, Try.ntmps7
    go_wp2_with fail
    refine (Hp.out _ Hc.out).mono ?_
    rintro e w1 ⟨⟨x, y, z, rfl⟩, hb⟩
    have HB := hid hb
    have hsz := hb.size
    clear hb
    go_wp2
    go_ret
    exact ⟨ret_bool Hs.out.symm, HB.out.alloc hsz _⟩

/-- The tail as it came in. -/
def SrcT (w : World) (ao : Option Addr) (T : List Nat) : Prop :=
  0 < T.length → ∃ b off : Nat, ao = some ⟨b, off, none⟩ ∧ ∀ i, i < T.length → w.cell? ⟨b, off + i, none⟩ = some (.int .u8 ((T.getD i 0 : Nat) : Int))

theorem SrcT_later {w w' : World} {ao : Option Addr} {T : List Nat} (h : SrcT w ao T) (hb : Below w.heap.size w w') : SrcT w' ao T := fun hp => by
  obtain ⟨b, off, rfl, hc⟩ := h hp
  exact ⟨b, off, rfl, fun i hi => by rw [hb.cell (World.block_lt_of_cell? _ _ (hc i hi))]; exact hc i hi⟩

theorem info22 : (Try.prog.info? 22).map (·.size) = some 16 := by kernel_rfl

theorem zz5_yes (p : Array Value) (a b c : Int) (ao : Option Addr) (n tcap : Nat) (k : Int) (w : World) (hn : n ≤ 1048576) :
    Calls Try.prog 5 #[.agg p, .int .u32 a, .int .u32 b, .int .u32 c, .slice ao n tcap, .int .i64 k] w fun e w' => e = .returned (.bool true) ∧ Below w.heap.size w w' := by
  go_enter Try.func5, Try.ntmps5
  go_wp2
  go_ret
  exact ⟨rfl, (Below.refl _ _).alloc (Nat.le_refl _) _⟩
theorem zz5_no (p : Array Value) (a b c : Int) (ao : Option Addr) (n tcap : Nat) (k : Int) (w : World) (hn : 1048576 < n) :
    Calls Try.prog 5 #[.agg p, .int .u32 a, .int .u32 b, .int .u32 c, .slice ao n tcap, .int .i64 k] w fun e w' => e = .returned (.bool false) ∧ Below w.heap.size w w' := by
  go_enter Try.func5, Try.ntmps5
  go_wp2
  go_ret
  exact ⟨rfl, (Below.refl _ _).alloc (Nat.le_refl _) _⟩

theorem box_later {w w' : World} {o : Obj} (hb : Below (w.alloc o).heap.size (w.alloc o) w') : w'.heap[w.heap.size]? = some o := by
  rw [hb.block w.heap.size (by simp)]; exact heap_alloc_new w o

set_option maxHeartbeats 400000 in
theorem acc_over (pre : List Nat) (doc data next : Int) (ao : Option Addr) (n tcap : Nat) (k : Int) (w : World) (hp : pre.length = 16) (hn : 1048576 < n) :
    Calls Try.prog 3 #[.agg (Cells8 pre).toArray, .int .u32 doc, .int .u32 data, .int .u32 next, .slice ao n tcap, .int .i64 k] w fun e w' =>
      e = .returned (.bool true) ∧ Below w.heap.size w w' := by
  have hi22 : (Try.prog.info? 22).map (·.size) = some (Cells8 pre).toArray.size := by rw [info22]; simp [Cells8_length, hp]
  have Hi := hid hi22
  clear hi22
  go_enter Try.func3, Try.ntmps3
  go_wp2_with (refine wpList_load_row rfl 22 (.tmp 6) rfl w.heap.size rfl 22 (Cells8 pre).toArray (0, 0) _ (heap_alloc_new w _) Try.underlying22 rfl Hi.out ?_)
  refine (zz5_no _ _ _ _ _ _ _ _ _ hn).mono ?_
  rintro e w1 ⟨rfl, hb1⟩
  have HB := hid hb1
  clear hb1
  go_wp2
  go_ret
  exact ⟨rfl, ((Below.refl _ _).alloc (Nat.le_refl _) _).trans (HB.out.mono (by simp))⟩

set_option maxHeartbeats 400000 in
theorem acc_main (pre : List Nat) (doc data next : Nat) (ao : Option Addr) (tcap : Nat) (T : List Nat) (k : Int) (w : World) (hp : pre.length = 16) (hp8 : ∀ i, pre.getD i 0 < 256) (hT8 : ∀ i, T.getD i 0 < 256) (hdoc : doc < 4294967296) (hdata : data < 4294967296) (hnext : next < 4294967296)
    (hT : T.length ≤ 1048576) (hsrc : SrcT w ao T) :
    Calls Try.prog 3 #[.agg (Cells8 pre).toArray, .int .u32 (doc : Int), .int .u32 (data : Int), .int .u32 (next : Int), .slice ao T.length tcap, .int .i64 k] w fun e w' =>
      e = .returned (.bool true) ∧ Below w.heap.size w w' := by
  have hi22 : (Try.prog.info? 22).map (·.size) = some (Cells8 pre).toArray.size := by rw [info22]; simp [Cells8_length, hp]
  have Hi := hid hi22
  have Hsrc := hid hsrc
  clear hi22 hsrc
  go_enter Try.func3, Try.ntmps3
  go_wp2_with (refine wpList_load_row rfl 22 (.tmp 6) rfl w.heap.size rfl 22 (Cells8 pre).toArray (0, 0) _ (heap_alloc_new w _) Try.underlying22 rfl Hi.out ?_)
  refine (zz5_yes _ _ _ _ _ _ _ _ _ hT).mono ?_
  rintro e w1 ⟨rfl, hb1⟩
  have HX := hid (box_later hb1)
  have HB : Hid (Below w.heap.size w w1) := ((Below.refl _ _).alloc (Nat.le_refl _) _).trans (hb1.mono (by simp))
  clear hb1
  go_wp2_with (refine wpList_load_row rfl 22 (.tmp 6) rfl w.heap.size rfl 22 (Cells8 pre).toArray (0, 0) _ HX.out Try.underlying22 rfl Hi.out ?_)
  refine (build_any pre doc data next ao tcap T _ hp hdoc hdata hnext hT (SrcT_later Hsrc.out HB.out)).mono ?_
  rintro e w2 ⟨g, n, rfl, hn, hown, hb2⟩
  have hcont := headL_cont pre doc data next T hp
  have hlen := headL_length pre doc data next T hp
  have hH8 : ∀ i, (headL pre doc data next T).getD i 0 < 256 := headL_lt _ _ _ _ _ hp8 hT8
  have hcells : ∀ i, i < n → w2.cell? ⟨g, i, none⟩ = some (.int .u8 (((headL pre doc data next T).getD i 0 : Nat) : Int)) := fun i hi => by
    rw [hown.cellAt i (by omega)]; exact Cells8_get _ i (by omega)
  have hgw : g < w2.heap.size := (hown.lt g rfl).2
  have HB2 : Hid (Below w.heap.size w w2) := HB.out.trans (hb2.mono HB.out.size)
  have hw2 := HB2.out.size
  generalize headL pre doc data next T = H at *
  have Hcont := hid hcont
  have HH8 := hid hH8
  have Hcells := hid hcells
  have Hlen : Hid (H.length = n) := by rw [hlen]; exact hn.symm
  have hn' : n ≤ 2000000 := by omega
  clear hcont hlen hH8 hcells hown hb2 hn HX Hi Hsrc HB
  by_cases hk : 0 ≤ k ∧ k ≤ n
  · obtain ⟨hk0, hkn⟩ := hk
    obtain ⟨K, rfl⟩ := Int.eq_ofNat_of_zero_le hk0
    go_wp2_with fail
    refine (isContainer_any g n n H _ Hlen.out (Nat.le_refl _) (by omega) HH8.out Hcells.out).mono ?_
    rintro e w3 ⟨rfl, hb3⟩
    rw [Hcont.out]
    have HB3 := hid hb3
    clear hb3
    go_wp2_with fail
    have hKn : K ≤ n := by omega
    have hget : ∀ i, i < K → (H.take K).getD i 0 = H.getD i 0 := fun i hi => by simp [List.getD, hi]
    have h8' : ∀ i, (H.take K).getD i 0 < 256 := fun i => by
      by_cases hi : i < K
      · rw [hget i hi]; exact HH8.out i
      · have e : (H.take K).getD i 0 = 0 := by simp [List.getD, List.getElem?_eq_none (show (H.take K).length ≤ i by simp; omega)]
        rw [e]; omega
    refine (isContainer_any g K n (H.take K) _ (by have := Hlen.out; simp; omega) hKn (by omega) h8' (fun i hi => by rw [hget i hi, HB3.out.cell (by exact hgw)]; exact Hcells.out i (by omega))).mono ?_
    rintro e w4 ⟨rfl, hb4⟩
    rw [take_cont H Hcont.out K (by have := Hlen.out; omega)]
    have HB4 : Hid (Below w.heap.size w w4) := by
      have h3 := HB2.out.trans (HB3.out.mono hw2)
      exact h3.trans (hb4.mono h3.size)
    clear hb4 hget h8'
    by_cases h47 : 47 ≤ K
    · have e1 : decide (47 ≤ K) = true := decide_eq_true h47
      rw [e1]
      have e2 : (47 : Int) ≤ (K : Int) := by omega
      go_wp2
      go_ret
      exact ⟨rfl, HB4.out⟩
    · have e1 : decide (47 ≤ K) = false := decide_eq_false h47
      rw [e1]
      have e2 : (decide ((47 : Int) ≤ (K : Int))) = false := decide_eq_false (by omega)
      go_wp2
      go_ret
      exact ⟨rfl, HB4.out⟩
  · by_cases hk0 : k < 0
    · clear hk
      go_wp2
      go_ret
      exact ⟨rfl, HB2.out⟩
    · have hkn : (n : Int) < k := by omega
      clear hk
      go_wp2
      go_ret
      exact ⟨rfl, HB2.out⟩
end Go.Proofs.Qxb6628685a
