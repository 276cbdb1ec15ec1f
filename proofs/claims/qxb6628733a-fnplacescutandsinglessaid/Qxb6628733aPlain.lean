import Derived.Laws.Rows
namespace Go.Proofs.Qxb6628733a

/-- A place: a kind, a folder, a suffix. -/
structure Pl where
  k : Int
  f : ByteArray
  s : ByteArray
/-- An agent: a name, a folder, its files. -/
structure Ag where
  nm : ByteArray
  fd : ByteArray
  fl : List Pl

def noPl : Pl := ⟨0, ByteArray.empty, ByteArray.empty⟩
def slash : ByteArray := ⟨#[47]⟩
/-- Where the agent reads kind k. -/
def reads (a : Ag) (k : Int) : Option Pl := if k = 0 then some ⟨0, a.fd, slash⟩ else a.fl.find? (fun p => p.k == k)
/-- Two places in one folder. -/
def same (q p : Pl) : Bool := q.f.toList == p.f.toList
def holds (acc : List Pl) (p : Pl) : Bool := acc.any (fun q => same q p)
def addP (acc : List Pl) (o : Option Pl) : List Pl :=
  match o with
  | none => acc
  | some p => if holds acc p = true then acc else acc ++ [p]
def run (acc : List Pl) (rs : List (Option Pl)) : List Pl := rs.foldl addP acc
def places (as : List Ag) (k : Int) : List Pl := run [] (as.map (fun a => reads a k))
def joinL (l r : List Pl) : List Pl := l ++ r.filter (fun p => !holds l p)

theorem same_refl (p : Pl) : same p p = true := by simp [same]
theorem same_trans {p q r : Pl} (h : same p q = true) (h2 : same q r = true) : same p r = true := by
  simp [same] at *; rw [h, h2]
theorem same_symm {p q : Pl} (h : same p q = true) : same q p = true := by simp [same] at *; rw [h]

theorem holds_iff (l : List Pl) (p : Pl) : holds l p = true ↔ ∃ q ∈ l, same q p = true := by simp [holds]
theorem holds_append (l r : List Pl) (p : Pl) : holds (l ++ r) p = (holds l p || holds r p) := by simp [holds]
theorem holds_nil (p : Pl) : holds [] p = false := rfl

theorem run_snoc (acc : List Pl) (rs : List (Option Pl)) (o : Option Pl) : run acc (rs ++ [o]) = addP (run acc rs) o := by simp [run]
theorem run_append (acc : List Pl) (r1 r2 : List (Option Pl)) : run acc (r1 ++ r2) = run (run acc r1) r2 := by simp [run]

theorem snoc_ind {α : Type} {P : List α → Prop} (h0 : P []) (h1 : ∀ l a, P l → P (l ++ [a])) : ∀ l, P l := by
  have h : ∀ l : List α, P l.reverse := by
    intro l
    induction l with
    | nil => exact h0
    | cons a l ih => rw [List.reverse_cons]; exact h1 _ _ ih
  intro l
  have := h l.reverse
  rwa [List.reverse_reverse] at this

theorem run_join (l : List Pl) (rs : List (Option Pl)) : run l rs = joinL l (run [] rs) := by
  refine snoc_ind (P := fun rs => run l rs = joinL l (run [] rs)) ?_ ?_ rs
  · simp [run, joinL]
  · intro rs o ih
    rw [run_snoc, run_snoc, ih]
    cases o with
    | none => rfl
    | some p =>
      simp only [addP]
      by_cases hl : holds l p = true
      · have h1 : holds (joinL l (run [] rs)) p = true := by unfold joinL; rw [holds_append, hl]; rfl
        rw [if_pos h1]
        by_cases hx : holds (run [] rs) p = true
        · rw [if_pos hx]
        · rw [if_neg hx]; unfold joinL; rw [List.filter_append]; simp [hl]
      · have hl' : holds l p = false := by simpa using hl
        by_cases hx : holds (run [] rs) p = true
        · have h1 : holds (joinL l (run [] rs)) p = true := by
            obtain ⟨q, hq, hs⟩ := (holds_iff _ _).1 hx
            refine (holds_iff _ _).2 ⟨q, ?_, hs⟩
            unfold joinL
            refine List.mem_append_right _ (List.mem_filter.2 ⟨hq, ?_⟩)
            by_cases hlq : holds l q = true
            · obtain ⟨r, hr, hrs⟩ := (holds_iff _ _).1 hlq
              exact absurd ((holds_iff _ _).2 ⟨r, hr, same_trans hrs hs⟩) hl
            · simpa using hlq
          rw [if_pos h1, if_pos hx]
        · have h1 : ¬ holds (joinL l (run [] rs)) p = true := by
            intro h
            obtain ⟨q, hq, hs⟩ := (holds_iff _ _).1 h
            unfold joinL at hq
            rcases List.mem_append.1 hq with h2 | h2
            · exact hl ((holds_iff _ _).2 ⟨q, h2, hs⟩)
            · exact hx ((holds_iff _ _).2 ⟨q, (List.mem_filter.1 h2).1, hs⟩)
          rw [if_neg h1, if_neg hx]; unfold joinL; rw [List.filter_append]; simp [hl']

theorem places_append (A B : List Ag) (k : Int) : places (A ++ B) k = joinL (places A k) (places B k) := by
  unfold places
  rw [List.map_append, run_append, run_join]
theorem places_one (a : Ag) (k : Int) : places [a] k = (reads a k).toList := by
  unfold places run
  cases h : reads a k <;> simp [h, addP, holds]
theorem places_snoc (A : List Ag) (a : Ag) (k : Int) : places (A ++ [a]) k = addP (places A k) (reads a k) := by
  unfold places; rw [List.map_append]; exact run_snoc _ _ _

/-- What was read once is held from then on. -/
theorem addP_holds (acc : List Pl) (p : Pl) : holds (addP acc (some p)) p = true := by
  simp only [addP]
  by_cases h : holds acc p = true
  · rw [if_pos h]; exact h
  · rw [if_neg h, holds_append]; simp [holds, same_refl]
theorem addP_mono (acc : List Pl) (o : Option Pl) (p : Pl) (h : holds acc p = true) : holds (addP acc o) p = true := by
  cases o with
  | none => exact h
  | some q =>
    simp only [addP]
    by_cases hq : holds acc q = true
    · rw [if_pos hq]; exact h
    · rw [if_neg hq, holds_append, h]; rfl
theorem run_mono (rs : List (Option Pl)) : ∀ (acc : List Pl) (p : Pl), holds acc p = true → holds (run acc rs) p = true := by
  induction rs with
  | nil => intro acc p h; exact h
  | cons o rs ih => intro acc p h; exact ih _ _ (addP_mono acc o p h)
theorem places_mem (A : List Ag) (a : Ag) (k : Int) (ha : a ∈ A) : addP (places A k) (reads a k) = places A k := by
  obtain ⟨l, r, rfl⟩ := List.append_of_mem ha
  cases h : reads a k with
  | none => rfl
  | some p =>
    have hh : holds (places (l ++ a :: r) k) p = true := by
      unfold places
      rw [List.map_append, List.map_cons, run_append, h]
      show holds (run (addP (run [] (l.map (fun a => reads a k))) (some p)) (r.map (fun a => reads a k))) p = true
      exact run_mono _ _ _ (addP_holds _ p)
    simp only [addP]; rw [if_pos hh]
theorem places_dup (A B : List Ag) (a : Ag) (k : Int) (ha : a ∈ A) : places (A ++ [a] ++ B) k = places (A ++ B) k := by
  rw [places_append, places_snoc, places_mem A a k ha, ← places_append]

theorem addP_length (acc : List Pl) (o : Option Pl) : (addP acc o).length ≤ acc.length + 1 := by
  cases o with
  | none => simp [addP]
  | some p => simp only [addP]; split <;> simp
theorem places_length (A : List Ag) (k : Int) : (places A k).length ≤ A.length := by
  refine snoc_ind (P := fun A => (places A k).length ≤ A.length) ?_ ?_ A
  · simp [places, run]
  · intro A a ih; rw [places_snoc]; have := addP_length (places A k) (reads a k); simp; omega

end Go.Proofs.Qxb6628733a
