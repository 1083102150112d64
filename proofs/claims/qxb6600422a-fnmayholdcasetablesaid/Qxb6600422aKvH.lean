/-
  THE PLAIN LAW: mayHold's answer is the case table's.
-/
import Derived.Test.Qxb6600422aKvC
import Derived.Test.Qxb6600422aKvG
namespace Go.Proofs.Qxb6600422a
open Go.RowKit

theorem capU_gt (L : List Int) : 1 ≤ capU L ∧ ∀ z ∈ L, z < capU L := by
  have key : ∀ (L : List Int) (u : Int), u ≤ L.foldl (fun u v => max u (v + 1)) u ∧ ∀ z ∈ L, z < L.foldl (fun u v => max u (v + 1)) u := by
    intro L
    induction L with
    | nil => intro u; exact ⟨Int.le_refl _, fun z hz => by cases hz⟩
    | cons x r ih =>
      intro u
      obtain ⟨h1, h2⟩ := ih (max u (x + 1))
      refine ⟨?_, fun z hz => ?_⟩
      · show u ≤ r.foldl _ (max u (x + 1)); omega
      · show z < r.foldl _ (max u (x + 1))
        rcases List.mem_cons.1 hz with rfl | hz
        · omega
        · exact h2 z hz
  exact ⟨(key L 1).1, (key L 1).2⟩

theorem hasB_iff (zs : List Int) (v : Int) : hasB zs v = true ↔ v ∈ zs := by unfold hasB; exact List.contains_iff_mem
theorem hasB_no (zs : List Int) (v : Int) (h : v ∉ zs) : hasB zs v = false := by
  cases hh : hasB zs v
  · rfl
  · exact absurd ((hasB_iff zs v).1 hh) h

theorem names_at {star : Bool} {vs : List Int} {v : Int} (h : v ≠ 0) : namesB star vs v = (star || hasB vs v) := names_more (by simpa using h)

theorem law_unknown (hm am : Bool) (ms : List Int) (hn an : Bool) (ns : List Int) :
    (gat hm ms hn ns 2 ++ [capU (gat hm ms hn ns 2)]).any (askB hm am ms hn an ns) = (if (hn && an) = true then false else if (!hm || am) = true then true else ms.any (wantB hn ns)) := by
  obtain ⟨hU1, hU2⟩ := capU_gt (gat hm ms hn ns 2)
  have hask : ∀ v, v ≠ 0 → askB hm am ms hn an ns v = ((!hm || (am || hasB ms v)) && (!hn || !(an || hasB ns v))) := by
    intro v hv
    unfold askB holdsAtB
    rw [names_at hv, names_at hv]
    have : (v != 0) = true := by simpa using hv
    rw [this, Bool.true_and]
  have hask0 : askB hm am ms hn an ns 0 = false := rfl
  by_cases hx : (hn && an) = true
  · rw [if_pos hx]
    obtain ⟨rfl, rfl⟩ : hn = true ∧ an = true := by simpa using hx
    rw [List.any_eq_false]
    intro v _
    by_cases hv : v = 0
    · subst hv; rw [hask0]; simp
    · rw [hask v hv]; simp
  · rw [if_neg hx]
    have hU0 : capU (gat hm ms hn ns 2) ≠ 0 := by omega
    by_cases hy : (!hm || am) = true
    · rw [if_pos hy, List.any_append]
      have : ([capU (gat hm ms hn ns 2)] : List Int).any (askB hm am ms hn an ns) = true := by
        rw [List.any_cons, List.any_nil, Bool.or_false, hask _ hU0]
        have e1 : (!hm || (am || hasB ms (capU (gat hm ms hn ns 2)))) = true := by cases hm <;> cases am <;> simp_all
        rw [e1, Bool.true_and]
        cases hn
        · rfl
        · have ha : an = false := by simpa using hx
          subst ha
          rw [hasB_no ns _ (fun hmem => ?_)]
          · rfl
          · have := hU2 _ (show capU (gat hm ms true ns 2) ∈ gat hm ms true ns 2 from List.mem_append_right _ hmem)
            omega
      rw [this, Bool.or_true]
    · rw [if_neg hy]
      obtain ⟨rfl, rfl⟩ : hm = true ∧ am = false := by cases hm <;> cases am <;> simp_all
      rw [Bool.eq_iff_iff, List.any_eq_true, List.any_eq_true]
      have hwant : ∀ v, v ≠ 0 → wantB hn ns v = (!(hn && hasB ns v)) := by
        intro v hv
        unfold wantB
        have : (v != 0) = true := by simpa using hv
        rw [this, Bool.true_and]
      have hone : ∀ v, v ≠ 0 → (askB true false ms hn an ns v = true ↔ v ∈ ms ∧ wantB hn ns v = true) := by
        intro v hv
        rw [hask v hv, hwant v hv]
        have := hasB_iff ms v
        cases hh : hasB ms v <;> cases hn <;> cases an <;> simp_all
      constructor
      · rintro ⟨v, _, hv⟩
        by_cases h0 : v = 0
        · subst h0; rw [hask0] at hv; cases hv
        · obtain ⟨h1, h2⟩ := (hone v h0).1 hv
          exact ⟨v, h1, h2⟩
      · rintro ⟨v, hv, hw⟩
        have h0 : v ≠ 0 := by
          rintro rfl
          simp [wantB] at hw
        exact ⟨v, List.mem_append_left _ (List.mem_append_left _ hv), (hone v h0).2 ⟨hv, hw⟩⟩

theorem law (set : Bool) (ver : Int) (hm am : Bool) (ms : List Int) (hn an : Bool) (ns : List Int) : mayB set ver hm am ms hn an ns = modelB set ver hm am ms hn an ns := by
  unfold mayB modelB
  cases set
  · rw [if_pos rfl, if_pos rfl]
    unfold holdsAtB
    rw [names_zero (by rfl), names_zero (by rfl)]
    simp
  · cases (ver == 0)
    · rfl
    · exact law_unknown hm am ms hn an ns

theorem gat_range (hm : Bool) (ms : List Int) (hn : Bool) (ns : List Int) (h1 : ∀ z ∈ ms, 0 ≤ z ∧ z ≤ 18446744073709551615) (h2 : ∀ z ∈ ns, 0 ≤ z ∧ z ≤ 18446744073709551615) (ht : listsTopB hm ms hn ns = false) :
    ∀ z ∈ gat hm ms hn ns 2, 0 ≤ z ∧ z ≤ 18446744073709551614 := by
  intro z hz
  unfold listsTopB topB at ht
  rw [Bool.or_eq_false_iff] at ht
  have hne : ∀ (l : List Int), hasB l 18446744073709551615 = false → z ∈ l → z ≠ 18446744073709551615 := by
    rintro l h hm rfl
    rw [(hasB_iff l _).2 hm] at h
    cases h
  have hz' : z ∈ ([] ++ if hm then ms else []) ++ if hn then ns else [] := hz
  rcases List.mem_append.1 hz' with hz | hz
  · cases hm
    · simp at hz
    · have hz2 : z ∈ ms := by simpa using hz
      have := h1 z hz2
      have := hne ms (by simpa using ht.1) hz2
      omega
  · cases hn
    · simp at hz
    · have hz2 : z ∈ ns := by simpa using hz
      have := h2 z hz2
      have := hne ns (by simpa using ht.2) hz2
      omega

end Go.Proofs.Qxb6600422a
