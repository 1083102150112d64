/-
  PLAIN: the law's model of firstInCycle: child lists ('lc'), the breadth-first search ('Bf'), the cycle and its entry.
-/
import Derived.Test.Qxb6601261aCyP
namespace Go.Proofs.Qxb6601261a

/-- The greatest place below m whose parent is v, or -1. -/
def lc (ps : List Int) (v : Int) : Nat → Int
  | 0 => -1
  | m + 1 => if ps.getD m (-1) = v then (m : Int) else lc ps v m
theorem lc_range (ps : List Int) (v : Int) : ∀ m, -1 ≤ lc ps v m ∧ lc ps v m < m
  | 0 => by simp [lc]
  | m + 1 => by
    unfold lc
    have := lc_range ps v m
    split <;> omega
theorem lc_hit {ps : List Int} {v : Int} : ∀ {m : Nat}, 0 ≤ lc ps v m → ps.getD (lc ps v m).toNat (-1) = v
  | 0, h => by simp [lc] at h
  | m + 1, h => by
    unfold lc at h ⊢
    by_cases e : ps.getD m (-1) = v
    · rw [if_pos e]; simpa using e
    · rw [if_neg e] at h ⊢; exact lc_hit h
theorem lc_max {ps : List Int} {v : Int} : ∀ {m i : Nat}, i < m → ps.getD i (-1) = v → (i : Int) ≤ lc ps v m
  | m + 1, i, hi, h => by
    unfold lc
    by_cases e : ps.getD m (-1) = v
    · rw [if_pos e]; omega
    · rw [if_neg e]
      have : i ≠ m := fun e' => e (by rw [← e']; exact h)
      exact lc_max (by omega) h

/-- Noughts where unreached. -/
def cb (R : Nat → Bool) : Nat → Int := fun i => if R i = true then 1 else 0
theorem cb_upd (R : Nat → Bool) (x n : Nat) : cnt (cb (upd R x true)) n = cnt (upd (cb R) x 1) n := by
  apply cnt_congr
  intro i _
  unfold cb upd
  by_cases e : i = x
  · simp [e]
  · simp [e]

/-- The search: qt nodes are queued, those before hp have all their children reached. -/
def Bf (ps : List Int) (R : Nat → Bool) (Q : Nat → Int) (hp qt : Nat) : Prop :=
  (∀ j, j < qt → 0 ≤ Q j ∧ Q j < ps.length) ∧ (∀ i, i < ps.length → R i = true → Rooted ps i ∧ ∃ j, j < qt ∧ Q j = i) ∧
  (∀ j i, j < hp → i < ps.length → ps.getD i (-1) = Q j → R i = true) ∧ qt + cnt (cb R) ps.length = ps.length ∧ hp ≤ qt ∧ ∀ j, j < qt → R (Q j).toNat = true

theorem cnt_full (S : Nat → Int) (h : ∀ i, S i = 0) : ∀ n, cnt S n = n
  | 0 => rfl
  | n + 1 => by unfold cnt; rw [cnt_full S h n, if_pos (h n)]
theorem Bf.start (ps : List Int) (Q : Nat → Int) : Bf ps (fun _ => false) Q 0 0 :=
  ⟨fun j h => absurd h (by omega), fun i _ h => (by cases h), fun j _ h => absurd h (by omega), by rw [cnt_full _ (fun i => by simp [cb])]; omega, Nat.le_refl _, fun j h => absurd h (by omega)⟩

theorem Bf.room {ps : List Int} {R : Nat → Bool} {Q : Nat → Int} {hp qt x : Nat} (h : Bf ps R Q hp qt) (hx : x < ps.length) (hr : R x = false) : qt < ps.length := by
  have := cnt_pos (S := cb R) hx (by simp [cb, hr])
  have := h.2.2.2.1
  omega
theorem Bf.le {ps : List Int} {R : Nat → Bool} {Q : Nat → Int} {hp qt : Nat} (h : Bf ps R Q hp qt) : qt ≤ ps.length := by
  have := h.2.2.2.1
  omega
theorem Bf.add {ps : List Int} {R : Nat → Bool} {Q : Nat → Int} {hp qt x : Nat} (h : Bf ps R Q hp qt) (hx : x < ps.length) (hr : R x = false) (hroot : Rooted ps x) : Bf ps (upd R x true) (upd Q qt (x : Int)) hp (qt + 1) := by
  obtain ⟨h1, h2, h3, h4, h5, h6⟩ := h
  have hmono : ∀ i, R i = true → upd R x true i = true := by
    intro i hi
    unfold upd
    split
    · rfl
    · exact hi
  refine ⟨fun j hj => ?_, fun i hi hR => ?_, fun j i hj hi hc => ?_, ?_, by omega, fun j hj => ?_⟩
  · by_cases e : j = qt
    · subst e; rw [upd_same]; omega
    · rw [upd_other _ _ e]; exact h1 j (by omega)
  · by_cases e : i = x
    · subst e; exact ⟨hroot, qt, by omega, upd_same _ _ _⟩
    · rw [upd_other _ _ e] at hR
      obtain ⟨g1, j, g2, g3⟩ := h2 i hi hR
      exact ⟨g1, j, by omega, by rw [upd_other _ _ (by omega)]; exact g3⟩
  · rw [upd_other _ _ (by omega)] at hc
    exact hmono i (h3 j i hj hi hc)
  · rw [cb_upd]
    have := cnt_upd (S := cb R) (u := 1) (by omega) (by simp [cb, hr]) hx
    omega
  · by_cases e : j = qt
    · subst e; rw [upd_same]; simp only [Int.toNat_natCast]; exact upd_same _ _ _
    · rw [upd_other _ _ e]; exact hmono _ (h6 j (by omega))

/-- The children of v from place t on are reached. -/
def Kids (ps : List Int) (R : Nat → Bool) (v : Int) (t : Nat) : Prop := ∀ i, t ≤ i → i < ps.length → ps.getD i (-1) = v → R i = true
theorem Kids.start (ps : List Int) (R : Nat → Bool) (v : Int) : Kids ps R v ps.length := fun i h1 h2 => by omega
theorem Kids.step {ps : List Int} {R R' : Nat → Bool} {v : Int} {t c : Nat} (h : Kids ps R v t) (hc : lc ps v t = c) (hm : ∀ i, R i = true → R' i = true) (hR : R' c = true) : Kids ps R' v c := by
  intro i h1 h2 h3
  by_cases e : i = c
  · subst e; exact hR
  · by_cases ht : t ≤ i
    · exact hm i (h i ht h2 h3)
    · have := lc_max (ps := ps) (v := v) (m := t) (i := i) (by omega) h3
      omega
theorem Kids.done {ps : List Int} {R : Nat → Bool} {Q : Nat → Int} {hp qt t : Nat} (h : Bf ps R Q hp qt) (hq : hp < qt) (hk : Kids ps R (Q hp) t) (hl : lc ps (Q hp) t < 0) : Bf ps R Q (hp + 1) qt := by
  obtain ⟨h1, h2, h3, h4, h5, h6⟩ := h
  refine ⟨h1, h2, fun j i hj hi hc => ?_, h4, by omega, h6⟩
  by_cases e : j = hp
  · subst e
    by_cases ht : t ≤ i
    · exact hk i ht hi hc
    · have := lc_max (ps := ps) (v := Q j) (m := t) (i := i) (by omega) hc
      omega
  · exact h3 j i (by omega) hi hc
theorem rooted_child {ps : List Int} {i : Nat} {v : Int} (hi : ps.getD i (-1) = v) (hv : Rooted ps v) : Rooted ps i := by
  refine Rooted.of_it 1 ?_
  show Rooted ps (nx ps (i : Int))
  rw [nx_pos (by omega)]
  simp only [Int.toNat_natCast]
  rw [hi]
  exact hv

/-- When the search is through, the reached nodes are just those whose chain ends at a root. -/
theorem Bf.all {ps : List Int} {R : Nat → Bool} {Q : Nat → Int} {q : Nat} (hf : Fits ps) (h : Bf ps R Q q q) (hroots : ∀ i, i < ps.length → ps.getD i (-1) < 0 → R i = true) : ∀ i, i < ps.length → (R i = true ↔ Rooted ps i) := by
  obtain ⟨h1, h2, h3, h4, h5, h6⟩ := h
  have key : ∀ k i, i < ps.length → it ps k (i : Int) < 0 → R i = true := by
    intro k
    induction k with
    | zero => intro i _ h; simp only [it] at h; omega
    | succ k ih =>
      intro i hi hk
      by_cases hp : ps.getD i (-1) < 0
      · exact hroots i hi hp
      · have hpl := hf i hi
        obtain ⟨p, hpp⟩ : ∃ p : Nat, ps.getD i (-1) = p := ⟨(ps.getD i (-1)).toNat, by omega⟩
        have hnx : it ps 1 (i : Int) = p := by
          show nx ps (i : Int) = p
          rw [nx_pos (by omega)]
          simpa using hpp
        rw [it_add, hnx] at hk
        have hR := ih p (by omega) hk
        obtain ⟨-, j, hj, hQ⟩ := h2 p (by omega) hR
        exact h3 j i hj hi (by rw [hpp, hQ])
  intro i hi
  exact ⟨fun h => (h2 i hi h).1, fun ⟨k, hk⟩ => key k i hi hk⟩

/-! ### The cycle -/
theorem Rho.not_rooted {ps : List Int} {s : Int} {a j : Nat} (h : Rho ps s a j) : ∀ m, ∃ x, x < j ∧ (a ≤ m → a ≤ x) ∧ it ps m s = it ps x s := by
  obtain ⟨haj, h1, h2, h3⟩ := h
  intro m
  induction m using Nat.strongRecOn with
  | _ m ih =>
    by_cases hm : m < j
    · exact ⟨m, hm, id, rfl⟩
    · obtain ⟨x, hx, hax, he⟩ := ih (m - j + a) (by omega)
      refine ⟨x, hx, fun _ => hax (by omega), ?_⟩
      rw [← he, show m = (m - j) + j from by omega, it_add, h3, ← it_add]
      congr 1
      omega
theorem Rho.pos {ps : List Int} {s : Int} {a j : Nat} (h : Rho ps s a j) (m : Nat) : 0 ≤ it ps m s := by
  obtain ⟨x, hx, -, he⟩ := h.not_rooted m
  rw [he]
  exact h.2.1 x hx
theorem Rho.unrooted {ps : List Int} {s : Int} {a j : Nat} (h : Rho ps s a j) : ¬ Rooted ps s := by
  rintro ⟨k, hk⟩
  have := h.pos k
  omega
theorem it_period {ps : List Int} {c : Int} {L : Nat} (h : it ps L c = c) : ∀ k, it ps (k * L) c = c
  | 0 => by rw [Nat.zero_mul]; rfl
  | k + 1 => by rw [Nat.succ_mul, it_add, h]; exact it_period h k
/-- From n on the chain goes round and round. -/
theorem Rho.period {ps : List Int} {s : Int} {a j n : Nat} (h : Rho ps s a j) (hn : a ≤ n) : it ps (j - a) (it ps n s) = it ps n s := by
  obtain ⟨haj, -, -, h3⟩ := h
  rw [← it_add, show j - a + n = (n - a) + j from by omega, it_add, h3, ← it_add]
  congr 1
  omega
theorem round_less {ps : List Int} {c : Int} {T : Nat} (hT : 1 ≤ T) (h : it ps T c = c) : ∀ b, ∃ x, x < T ∧ it ps b c = it ps x c := by
  intro b
  induction b using Nat.strongRecOn with
  | _ b ih =>
    by_cases hb : b < T
    · exact ⟨b, hb, rfl⟩
    · obtain ⟨x, hx, he⟩ := ih (b - T) (by omega)
      refine ⟨x, hx, ?_⟩
      rw [← he, show b = (b - T) + T from by omega, it_add, h]
      congr 1
      omega

/-- The marks: the first t nodes of the chain of c. -/
def Marks (ps : List Int) (O : Nat → Bool) (c : Int) (t : Nat) : Prop := ∀ i, i < ps.length → (O i = true ↔ ∃ b, b < t ∧ it ps b c = i)
theorem Marks.start (ps : List Int) (c : Int) : Marks ps (fun _ => false) c 0 := fun i _ => ⟨fun h => (by cases h), fun ⟨b, hb, _⟩ => absurd hb (by omega)⟩
theorem Marks.step {ps : List Int} {O : Nat → Bool} {c : Int} {t x : Nat} (h : Marks ps O c t) (hx : it ps t c = x) : Marks ps (upd O x true) c (t + 1) := by
  intro i hi
  by_cases e : i = x
  · subst e
    rw [upd_same]
    exact ⟨fun _ => ⟨t, by omega, hx⟩, fun _ => rfl⟩
  · rw [upd_other _ _ e, h i hi]
    constructor
    · rintro ⟨b, hb, he⟩; exact ⟨b, by omega, he⟩
    · rintro ⟨b, hb, he⟩
      by_cases e' : b = t
      · subst e'; rw [hx] at he; omega
      · exact ⟨b, by omega, he⟩

/-- The first node of the chain of s that bears a mark is the entry. -/
theorem entry {ps : List Int} {s : Int} {a j n T : Nat} {O : Nat → Bool} (hf : Fits ps) (hs : s < ps.length) (h : Rho ps s a j) (hn : j ≤ n) (hT : 1 ≤ T) (hc : it ps T (it ps n s) = it ps n s) (hO : Marks ps O (it ps n s) T) :
    (∀ b, b < a → O (it ps b s).toNat = false) ∧ O (it ps a s).toNat = true := by
  have haj := h.1
  refine ⟨fun b hb => ?_, ?_⟩
  · cases hO' : O (it ps b s).toNat
    · rfl
    · exfalso
      have hp := h.pos b
      obtain ⟨x, hx, he⟩ := (hO _ (by have := it_lt hf hs b; omega)).1 hO'
      rw [← it_add] at he
      obtain ⟨y, hy, hay, hey⟩ := h.not_rooted (x + n)
      have := hay (by omega)
      exact h.2.2.1 b y (by omega) hy (by rw [← hey, he]; omega)
  · have hp := h.pos a
    refine (hO _ (by have := it_lt hf hs a; omega)).2 ?_
    have hper := h.period (n := a) (Nat.le_refl _)
    have e1 : it ps ((n + 1) * (j - a)) (it ps a s) = it ps a s := it_period hper (n + 1)
    have hbig : n + 1 ≤ (n + 1) * (j - a) := Nat.le_mul_of_pos_right (n + 1) (by omega)
    obtain ⟨x, hx, hex⟩ := round_less hT hc ((n + 1) * (j - a) + a - n)
    refine ⟨x, hx, ?_⟩
    rw [← hex, ← it_add, show (n + 1) * (j - a) + a - n + n = (n + 1) * (j - a) + a from by omega, it_add, e1]
    omega

end Go.Proofs.Qxb6601261a
