/-
  PLAIN: no Go in sight. Chains of parents: 'it', 'Rooted'; the shape of a chain that comes back ('Rho'); what firstInCycle answers ('FirstSpec'); the marks of its walk.
-/
import Derived.Below
namespace Go.Proofs.Qxb6601261a

/-- The parent of x; a root stays where it is. -/
def nx (ps : List Int) (x : Int) : Int := if x < 0 then x else ps.getD x.toNat (-1)
def it (ps : List Int) : Nat → Int → Int
  | 0, x => x
  | k + 1, x => nx ps (it ps k x)
/-- Every parent is a root's mark or a place in the list. -/
def Fits (ps : List Int) : Prop := ∀ i, i < ps.length → ps.getD i (-1) < (ps.length : Int)
def Rooted (ps : List Int) (x : Int) : Prop := ∃ k, it ps k x < 0

theorem it_add (ps : List Int) (a b : Nat) (x : Int) : it ps (a + b) x = it ps a (it ps b x) := by
  induction a with
  | zero => rw [Nat.zero_add]; rfl
  | succ a ih => rw [show a + 1 + b = (a + b) + 1 from by omega]; show nx ps (it ps (a + b) x) = nx ps (it ps a (it ps b x)); rw [ih]
theorem nx_neg {ps : List Int} {x : Int} (h : x < 0) : nx ps x = x := by unfold nx; rw [if_pos h]
theorem nx_pos {ps : List Int} {x : Int} (h : 0 ≤ x) : nx ps x = ps.getD x.toNat (-1) := by unfold nx; rw [if_neg (by omega)]
theorem it_neg {ps : List Int} {x : Int} (h : x < 0) (k : Nat) : it ps k x = x := by
  induction k with
  | zero => rfl
  | succ k ih => show nx ps (it ps k x) = x; rw [ih, nx_neg h]
theorem nx_lt {ps : List Int} (hf : Fits ps) {x : Int} (h : x < ps.length) : nx ps x < ps.length := by
  by_cases h0 : x < 0
  · rw [nx_neg h0]; omega
  · rw [nx_pos (by omega)]; exact hf x.toNat (by omega)
theorem it_lt {ps : List Int} (hf : Fits ps) {x : Int} (h : x < ps.length) (k : Nat) : it ps k x < ps.length := by
  induction k with
  | zero => exact h
  | succ k ih => exact nx_lt hf ih
theorem Rooted.of_it {ps : List Int} {x : Int} (k : Nat) (h : Rooted ps (it ps k x)) : Rooted ps x := by
  obtain ⟨m, hm⟩ := h
  exact ⟨m + k, by rw [it_add]; exact hm⟩
theorem Rooted.neg {ps : List Int} {x : Int} (h : x < 0) : Rooted ps x := ⟨0, h⟩
theorem Rooted.it {ps : List Int} {x : Int} (h : Rooted ps x) (k : Nat) : Rooted ps (it ps k x) := by
  obtain ⟨m, hm⟩ := h
  refine ⟨m, ?_⟩
  have e : Qxb6601261a.it ps m (Qxb6601261a.it ps k x) = Qxb6601261a.it ps k (Qxb6601261a.it ps m x) := by rw [← it_add, ← it_add, Nat.add_comm]
  rw [e, it_neg hm]
  exact hm

/-- The chain of s runs into a cycle: its first j nodes differ, the j-th is the a-th again. -/
def Rho (ps : List Int) (s : Int) (a j : Nat) : Prop :=
  a < j ∧ (∀ b, b < j → 0 ≤ it ps b s) ∧ (∀ b c, b < c → c < j → it ps b s ≠ it ps c s) ∧ it ps j s = it ps a s
def FirstSpec (ps : List Int) (r : Int) : Prop :=
  (r = -1 ∧ ∀ i : Nat, i < ps.length → Rooted ps i) ∨ ∃ s a j : Nat, s < ps.length ∧ (∀ i : Nat, i < s → Rooted ps i) ∧ Rho ps s a j ∧ j ≤ ps.length ∧ r = it ps a s

/-- How many of the first n are nought. -/
def cnt (S : Nat → Int) : Nat → Nat
  | 0 => 0
  | n + 1 => cnt S n + if S n = 0 then 1 else 0
def upd {α : Type} (S : Nat → α) (j : Nat) (u : α) : Nat → α := fun i => if i = j then u else S i
theorem upd_same {α : Type} (S : Nat → α) (j : Nat) (u : α) : upd S j u j = u := by unfold upd; rw [if_pos rfl]
theorem upd_other {α : Type} (S : Nat → α) {j i : Nat} (u : α) (h : i ≠ j) : upd S j u i = S i := by unfold upd; rw [if_neg h]
theorem cnt_congr {S T : Nat → Int} : ∀ {n : Nat}, (∀ i, i < n → S i = T i) → cnt S n = cnt T n
  | 0, _ => rfl
  | n + 1, h => by unfold cnt; rw [cnt_congr (fun i hi => h i (by omega)), h n (by omega)]
theorem cnt_upd {S : Nat → Int} {j : Nat} {u : Int} (hu : u ≠ 0) (hj : S j = 0) : ∀ {n : Nat}, j < n → cnt (upd S j u) n + 1 = cnt S n
  | n + 1, h => by
    unfold cnt
    by_cases e : j = n
    · subst e
      rw [upd_same, if_neg hu, if_pos hj, cnt_congr (S := upd S j u) (T := S) (fun i hi => upd_other S u (by omega))]
    · have := cnt_upd (S := S) (u := u) hu hj (n := n) (by omega)
      rw [upd_other S u (show n ≠ j by omega)]
      omega
theorem cnt_pos {S : Nat → Int} {j n : Nat} (hj : j < n) (h : S j = 0) : 1 ≤ cnt S n := by
  have := cnt_upd (S := S) (u := 1) (by omega) h hj
  omega
theorem cnt_le (S : Nat → Int) : ∀ n, cnt S n ≤ n
  | 0 => Nat.le_refl _
  | n + 1 => by unfold cnt; have := cnt_le S n; split <;> omega

/-- The marks between two starts: nought or two, two only where the chain ends at a root, two for every start that is done. -/
def Good (ps : List Int) (S : Nat → Int) (k : Nat) : Prop :=
  (∀ i, i < ps.length → S i = 0 ∨ (S i = 2 ∧ Rooted ps i)) ∧ ∀ i, i < k → S i = 2
/-- The first m nodes of the chain of k. -/
def chain (ps : List Int) (k : Nat) (m : Nat) : List Int := (List.range m).map (fun b => it ps b k)
theorem chain_len (ps : List Int) (k m : Nat) : (chain ps k m).length = m := by simp [chain]
theorem chain_succ (ps : List Int) (k m : Nat) : chain ps k (m + 1) = chain ps k m ++ [it ps m k] := by simp [chain, List.range_succ]
theorem chain_get (ps : List Int) (k m t : Nat) (h : t < m) : (chain ps k m)[t]? = some (it ps t k) := by simp [chain, h]

/-- The marks within a walk from k that has made m steps. -/
def Walk (ps : List Int) (S0 S : Nat → Int) (k m : Nat) : Prop :=
  (∀ b, b < m → 0 ≤ it ps b k ∧ it ps b k < ps.length ∧ S0 (it ps b k).toNat = 0 ∧ S (it ps b k).toNat = 1) ∧
  (∀ i, i < ps.length → (∀ b, b < m → it ps b k ≠ i) → S i = S0 i) ∧
  (∀ b c, b < c → c < m → it ps b k ≠ it ps c k) ∧ cnt S ps.length + m ≤ ps.length

theorem Walk.start (ps : List Int) (S0 : Nat → Int) (k : Nat) : Walk ps S0 S0 k 0 :=
  ⟨fun b h => absurd h (by omega), fun _ _ _ => rfl, fun b c _ h => absurd h (by omega), by have := cnt_le S0 ps.length; omega⟩

theorem Walk.step {ps : List Int} {S0 S : Nat → Int} {k m : Nat} (h : Walk ps S0 S k m) (hp : 0 ≤ it ps m k) (hl : it ps m k < ps.length) (hz : S (it ps m k).toNat = 0) :
    Walk ps S0 (upd S (it ps m k).toNat 1) k (m + 1) := by
  obtain ⟨h1, h2, h3, h4⟩ := h
  have hne : ∀ b, b < m → it ps b k ≠ it ps m k := by
    intro b hb e
    have := (h1 b hb).2.2.2
    rw [e, hz] at this
    omega
  refine ⟨fun b hb => ?_, fun i hi hn => ?_, fun b c hbc hc => ?_, ?_⟩
  · by_cases e : b = m
    · subst e
      refine ⟨hp, hl, ?_, upd_same _ _ _⟩
      rw [← h2 (it ps b k).toNat (by omega) (fun c hc e => hne c hc (by omega)), hz]
    · obtain ⟨g1, g2, g3, g4⟩ := h1 b (by omega)
      refine ⟨g1, g2, g3, ?_⟩
      rw [upd_other _ _ (fun e' => hne b (by omega) (by omega)), g4]
  · rw [upd_other _ _ (fun e => hn m (by omega) (by omega))]
    exact h2 i hi (fun b hb => hn b (by omega))
  · by_cases e : c = m
    · subst e; exact hne b hbc
    · exact h3 b c hbc (by omega)
  · have := cnt_upd (S := S) (j := (it ps m k).toNat) (u := 1) (by omega) hz (n := ps.length) (by omega)
    omega

/-- The walk comes upon its own mark: the chain runs into a cycle. -/
theorem Walk.found {ps : List Int} {S0 S : Nat → Int} {k m : Nat} (h : Walk ps S0 S k m) (hS0 : ∀ i, i < ps.length → S0 i = 0 ∨ (S0 i = 2 ∧ Rooted ps i)) (hp : 0 ≤ it ps m k) (hl : it ps m k < ps.length) (h1 : S (it ps m k).toNat = 1) :
    ∃ a, Rho ps k a m ∧ m ≤ ps.length ∧ it ps m k = it ps a k := by
  obtain ⟨g1, g2, g3, g4⟩ := h
  have hex : ∃ a, a < m ∧ it ps a k = it ps m k := by
    apply Classical.byContradiction
    intro hno
    have := g2 (it ps m k).toNat (by omega) (fun b hb e => hno ⟨b, hb, by omega⟩)
    rw [h1] at this
    rcases hS0 (it ps m k).toNat (by omega) with h | ⟨h, _⟩ <;> omega
  obtain ⟨a, ha, hea⟩ := hex
  exact ⟨a, ⟨ha, fun b hb => (g1 b hb).1, g3, hea.symm⟩, by omega, hea.symm⟩

/-- The walk ends at a root, or at a node whose chain does: so do all its nodes. -/
theorem Walk.rooted {ps : List Int} {S0 S : Nat → Int} {k m : Nat} (_h : Walk ps S0 S k m) (hr : Rooted ps (it ps m k)) : ∀ b, b ≤ m → Rooted ps (it ps b k) := by
  intro b hb
  refine Rooted.of_it (m - b) ?_
  rw [← it_add, show m - b + b = m from by omega]
  exact hr

/-- The marks when the first t nodes of the walk have been turned to two. -/
def Wiped (ps : List Int) (S0 S : Nat → Int) (k m t : Nat) : Prop :=
  (∀ b, b < m → 0 ≤ it ps b k ∧ it ps b k < ps.length) ∧ (∀ i, i < ps.length → (∀ b, b < m → it ps b k ≠ i) → S i = S0 i) ∧ ∀ b, b < t → S (it ps b k).toNat = 2
theorem Wiped.start {ps : List Int} {S0 S : Nat → Int} {k m : Nat} (h : Walk ps S0 S k m) : Wiped ps S0 S k m 0 :=
  ⟨fun b hb => ⟨(h.1 b hb).1, (h.1 b hb).2.1⟩, h.2.1, fun b hb => absurd hb (by omega)⟩
theorem Wiped.step {ps : List Int} {S0 S : Nat → Int} {k m t : Nat} (h : Wiped ps S0 S k m t) (ht : t < m) : Wiped ps S0 (upd S (it ps t k).toNat 2) k m (t + 1) := by
  obtain ⟨h1, h2, h3⟩ := h
  have ht1 := h1 t ht
  refine ⟨h1, fun i hi hn => ?_, fun b hb => ?_⟩
  · rw [upd_other _ _ (fun e => hn t ht (by omega))]
    exact h2 i hi hn
  · by_cases e : (it ps b k).toNat = (it ps t k).toNat
    · rw [e]; exact upd_same _ _ _
    · rw [upd_other _ _ e]
      exact h3 b (by
        have : b ≠ t := fun e' => e (by rw [e'])
        omega)
theorem Wiped.good {ps : List Int} {S0 S : Nat → Int} {k m : Nat} (h : Wiped ps S0 S k m m) (hg : Good ps S0 k) (hk : k < ps.length) (hr : ∀ b, b ≤ m → Rooted ps (it ps b k)) (hend : 0 < m ∨ S0 k = 2) : Good ps S (k + 1) := by
  obtain ⟨h1, h2, h3⟩ := h
  obtain ⟨g1, g2⟩ := hg
  have key : ∀ i, i < ps.length → (∃ b, b < m ∧ it ps b k = i) ∨ S i = S0 i := by
    intro i hi
    by_cases hex : ∃ b, b < m ∧ it ps b k = i
    · exact .inl hex
    · exact .inr (h2 i hi (fun b hb e => hex ⟨b, hb, e⟩))
  refine ⟨fun i hi => ?_, fun i hi => ?_⟩
  · rcases key i hi with ⟨b, hb, e⟩ | e
    · right
      have h4 := h3 b hb
      have h5 := hr b (by omega)
      rw [e] at h4 h5
      exact ⟨by simpa using h4, h5⟩
    · rw [e]; exact g1 i hi
  · rcases key i (by omega) with ⟨b, hb, e⟩ | e
    · have h4 := h3 b hb
      rw [e] at h4
      simpa using h4
    · by_cases ik : i = k
      · subst ik
        rcases hend with hm | h2'
        · have h4 := h3 0 hm
          simpa [it] using h4
        · rw [e]; exact h2'
      · rw [e]; exact g2 i (by omega)

end Go.Proofs.Qxb6601261a
