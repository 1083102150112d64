/-
  PLAIN: no Go in sight. What a string's bytes must be so that valueLen finds the end of the value that starts there: a string ('StrAt'), a bracket ('Box'), a plain run ('Plain'); the scan with its depth ('Scan'); an object's members ('Mem').
-/
import Derived.Below
namespace Go.Proofs.Qxb6601186a

/-- The byte at j, or -1 beyond the end. -/
def bt (s : ByteArray) (j : Nat) : Int := if h : j < s.size then ((s[j]'h).toNat : Int) else -1

theorem bt_at {s : ByteArray} {j : Nat} (h : j < s.size) : ((s[j]'h).toNat : Int) = bt s j := by unfold bt; rw [dif_pos h]
theorem bt_range {s : ByteArray} {j : Nat} (h : j < s.size) : 0 ≤ bt s j ∧ bt s j ≤ 255 := by
  rw [← bt_at h]
  have := (s[j]'h).toNat_lt
  omega
theorem bt_in {s : ByteArray} {j : Nat} (h : 0 ≤ bt s j) : j < s.size := by
  unfold bt at h
  by_cases hj : j < s.size
  · exact hj
  · rw [dif_neg hj] at h; omega
theorem bt_out {s : ByteArray} {j : Nat} (h : ¬ j < s.size) : bt s j = -1 := by unfold bt; rw [dif_neg h]

/-- From place j on a string's body runs to n: a quote ends it, a backslash takes the next byte with it. -/
def StrB (b : Nat → Int) : Nat → Nat → Nat → Prop
  | 0, _, _ => False
  | f + 1, j, n => 0 ≤ b j ∧ ((b j = 34 ∧ n = j + 1) ∨ (b j ≠ 34 ∧ b j ≠ 92 ∧ StrB b f (j + 1) n) ∨ (b j = 92 ∧ StrB b f (j + 2) n))
/-- A string lies at [i, n). -/
def StrAt (b : Nat → Int) (i n : Nat) : Prop := b i = 34 ∧ ∃ f, StrB b f (i + 1) n

theorem StrB.lt {b : Nat → Int} : ∀ {f j n : Nat}, StrB b f j n → j < n ∧ 0 ≤ b (n - 1)
  | f + 1, j, n, ⟨h0, h⟩ => by
    rcases h with ⟨h1, rfl⟩ | ⟨_, _, h3⟩ | ⟨_, h3⟩
    · exact ⟨by omega, by simpa using h0⟩
    · have := StrB.lt h3; exact ⟨by omega, this.2⟩
    · have := StrB.lt h3; exact ⟨by omega, this.2⟩
theorem StrAt.lt {b : Nat → Int} {i n : Nat} (h : StrAt b i n) : i + 1 < n ∧ 0 ≤ b (n - 1) := by
  obtain ⟨_, f, h⟩ := h
  have := h.lt
  exact ⟨by omega, this.2⟩

theorem StrB.shift {b : Nat → Int} (i : Nat) : ∀ {f j n : Nat}, StrB b f (i + j) (i + n) → StrB (fun k => b (i + k)) f j n
  | f + 1, j, n, ⟨h0, h⟩ => by
    refine ⟨h0, ?_⟩
    rcases h with ⟨h1, h2⟩ | ⟨h1, h2, h3⟩ | ⟨h1, h3⟩
    · exact .inl ⟨h1, by omega⟩
    · exact .inr (.inl ⟨h1, h2, StrB.shift i (j := j + 1) (by rw [← Nat.add_assoc]; exact h3)⟩)
    · exact .inr (.inr ⟨h1, StrB.shift i (j := j + 2) (by rw [← Nat.add_assoc]; exact h3)⟩)
theorem StrAt.shift {b : Nat → Int} {i n : Nat} (h : StrAt b i n) : StrAt (fun k => b (i + k)) 0 (n - i) := by
  have hl := h.lt
  obtain ⟨h1, f, h2⟩ := h
  refine ⟨h1, f, StrB.shift i (j := 1) ?_⟩
  rw [show i + (n - i) = n from by omega]
  exact h2

theorem StrB.agree {b c : Nat → Int} : ∀ {f j n : Nat}, (∀ k, k < n → c k = b k) → StrB b f j n → StrB c f j n
  | f + 1, j, n, ha, ⟨h0, h⟩ => by
    have hl : j < n := (StrB.lt (b := b) (f := f + 1) ⟨h0, h⟩).1
    have e := ha j hl
    refine ⟨by rw [e]; exact h0, ?_⟩
    rw [e]
    rcases h with ⟨h1, h2⟩ | ⟨h1, h2, h3⟩ | ⟨h1, h3⟩
    · exact .inl ⟨h1, h2⟩
    · exact .inr (.inl ⟨h1, h2, StrB.agree ha h3⟩)
    · exact .inr (.inr ⟨h1, StrB.agree ha h3⟩)
theorem StrAt.agree {b c : Nat → Int} {i n : Nat} (ha : ∀ k, k < n → c k = b k) (h : StrAt b i n) : StrAt c i n := by
  have hl := h.lt
  obtain ⟨h1, f, h2⟩ := h
  exact ⟨by rw [ha i (by omega)]; exact h1, f, h2.agree ha⟩

/-- One step of the scan: at place i, depth d. -/
def Step (b : Nat → Int) (i d i' d' : Nat) : Prop :=
  (d' = d ∧ StrAt b i i') ∨ ((b i = 123 ∨ b i = 91) ∧ d' = d + 1 ∧ i' = i + 1) ∨ ((b i = 125 ∨ b i = 93) ∧ d' + 1 = d ∧ 1 ≤ d' ∧ i' = i + 1) ∨
  (0 ≤ b i ∧ b i ≠ 34 ∧ b i ≠ 123 ∧ b i ≠ 91 ∧ b i ≠ 125 ∧ b i ≠ 93 ∧ d' = d ∧ i' = i + 1)
/-- So many steps. -/
def Scan (b : Nat → Int) : Nat → Nat → Nat → Nat → Nat → Prop
  | 0, i, d, i', d' => i = i' ∧ d = d'
  | f + 1, i, d, i', d' => ∃ i1 d1, Step b i d i1 d1 ∧ Scan b f i1 d1 i' d'

theorem Step.lt {b : Nat → Int} {i d i' d' : Nat} (h : Step b i d i' d') : i < i' := by
  rcases h with ⟨_, h⟩ | ⟨_, _, h⟩ | ⟨_, _, _, h⟩ | ⟨_, _, _, _, _, _, _, h⟩
  · have := h.lt; omega
  all_goals omega
theorem Step.inside {b : Nat → Int} {i d i' d' : Nat} (h : Step b i d i' d') : 0 ≤ b i := by
  rcases h with ⟨_, h⟩ | ⟨h, _⟩ | ⟨h, _⟩ | ⟨h, _⟩
  · rw [h.1]; omega
  all_goals omega
theorem Scan.le {b : Nat → Int} : ∀ {f i d i' d' : Nat}, Scan b f i d i' d' → i ≤ i'
  | 0, _, _, _, _, h => by rw [h.1]; exact Nat.le_refl _
  | f + 1, _, _, _, _, ⟨_, _, h1, h2⟩ => by have := h1.lt; have := Scan.le h2; omega
theorem Scan.trans {b : Nat → Int} : ∀ {f g i d i1 d1 i2 d2 : Nat}, Scan b f i d i1 d1 → Scan b g i1 d1 i2 d2 → Scan b (f + g) i d i2 d2
  | 0, g, _, _, _, _, _, _, ⟨rfl, rfl⟩, h => by rw [Nat.zero_add]; exact h
  | f + 1, g, _, _, _, _, _, _, ⟨j, e, h1, h2⟩, h => by
    rw [show f + 1 + g = (f + g) + 1 from by omega]
    exact ⟨j, e, h1, Scan.trans h2 h⟩
theorem Scan.one {b : Nat → Int} {i d i' d' : Nat} (h : Step b i d i' d') : Scan b 1 i d i' d' := ⟨i', d', h, rfl, rfl⟩

theorem Step.shift {b : Nat → Int} (i : Nat) {j d j' d' : Nat} (h : Step b (i + j) d (i + j') d') : Step (fun k => b (i + k)) j d j' d' := by
  rcases h with ⟨h1, h⟩ | ⟨h1, h2, h3⟩ | ⟨h1, h2, h3, h4⟩ | ⟨h1, h2, h3, h4, h5, h6, h7, h8⟩
  · refine .inl ⟨h1, h.1, ?_⟩
    obtain ⟨_, f, hf⟩ := h
    exact ⟨f, StrB.shift i (j := j + 1) (by rw [← Nat.add_assoc]; exact hf)⟩
  · exact .inr (.inl ⟨h1, h2, by omega⟩)
  · exact .inr (.inr (.inl ⟨h1, h2, h3, by omega⟩))
  · exact .inr (.inr (.inr ⟨h1, h2, h3, h4, h5, h6, h7, by omega⟩))
theorem Scan.shift {b : Nat → Int} (i : Nat) : ∀ {f j d j' d' : Nat}, Scan b f (i + j) d (i + j') d' → Scan (fun k => b (i + k)) f j d j' d'
  | 0, _, _, _, _, h => ⟨by have := h.1; omega, h.2⟩
  | f + 1, j, d, j', d', ⟨i1, d1, h1, h2⟩ => by
    have hl := h1.lt
    obtain ⟨j1, rfl⟩ : ∃ j1, i1 = i + j1 := ⟨i1 - i, by omega⟩
    exact ⟨j1, d1, h1.shift i, Scan.shift i h2⟩
theorem Step.agree {b c : Nat → Int} {i d i' d' : Nat} (ha : ∀ k, k < i' → c k = b k) (h : Step b i d i' d') : Step c i d i' d' := by
  have e := ha i h.lt
  rcases h with ⟨h1, h⟩ | h | h | h
  · exact .inl ⟨h1, h.agree ha⟩
  · right; left; rw [e]; exact h
  · right; right; left; rw [e]; exact h
  · right; right; right; rw [e]; exact h
theorem Scan.agree {b c : Nat → Int} : ∀ {f i d i' d' : Nat}, (∀ k, k < i' → c k = b k) → Scan b f i d i' d' → Scan c f i d i' d'
  | 0, _, _, _, _, _, h => h
  | f + 1, _, _, _, _, ha, ⟨i1, d1, h1, h2⟩ => ⟨i1, d1, h1.agree (fun k hk => ha k (by have := h2.le; omega)), Scan.agree ha h2⟩

/-- A bracket lies at [i, n): behind the opening byte the scan comes, at whatever depth, to the closing one. -/
def Box (b : Nat → Int) (i n : Nat) : Prop := (b i = 123 ∨ b i = 91) ∧ i + 1 < n ∧ (b (n - 1) = 125 ∨ b (n - 1) = 93) ∧ ∀ d, 1 ≤ d → ∃ f, Scan b f (i + 1) d (n - 1) d
/-- A byte that the scan passes by and that ends no plain value. -/
def PlainC (c : Int) : Prop := 0 ≤ c ∧ c ≠ 34 ∧ c ≠ 123 ∧ c ≠ 91 ∧ c ≠ 125 ∧ c ≠ 93 ∧ c ≠ 44
def Plain (b : Nat → Int) (i n : Nat) : Prop := ∀ j, i ≤ j → j < n → PlainC (b j)
/-- A value lies at [i, n). -/
def Val (b : Nat → Int) (i n : Nat) : Prop := i < n ∧ 0 ≤ b (n - 1) ∧ (StrAt b i n ∨ Box b i n ∨ Plain b i n)

theorem Plain.scan {b : Nat → Int} {i : Nat} (d : Nat) : ∀ (k : Nat), Plain b i (i + k) → Scan b k i d (i + k) d
  | 0, _ => ⟨rfl, rfl⟩
  | k + 1, h => by
    have h1 := Plain.scan d k (fun j h1 h2 => h j h1 (by omega))
    have hc := h (i + k) (by omega) (by omega)
    obtain ⟨c0, c1, c2, c3, c4, c5, -⟩ := hc
    exact h1.trans (Scan.one (.inr (.inr (.inr ⟨c0, c1, c2, c3, c4, c5, rfl, by omega⟩))))

/-- A value is passed by at every depth but nought. -/
theorem Val.scan {b : Nat → Int} {i n : Nat} (h : Val b i n) (d : Nat) (hd : 1 ≤ d) : ∃ f, Scan b f i d n d := by
  obtain ⟨hlt, -, h | h | h⟩ := h
  · exact ⟨1, Scan.one (.inl ⟨rfl, h⟩)⟩
  · obtain ⟨ho, hn, hc, hs⟩ := h
    obtain ⟨f, hf⟩ := hs (d + 1) (by omega)
    refine ⟨1 + f + 1, ((Scan.one (.inr (.inl ⟨ho, rfl, rfl⟩))).trans hf).trans (Scan.one (.inr (.inr (.inl ⟨hc, rfl, hd, by omega⟩))))⟩
  · refine ⟨n - i, ?_⟩
    have := Plain.scan (b := b) (i := i) d (n - i) (by rw [show i + (n - i) = n from by omega]; exact h)
    rw [show i + (n - i) = n from by omega] at this
    exact this

/-- From place j on an object's members run to n. -/
def Mem (b : Nat → Int) : Nat → Nat → Nat → Prop
  | 0, _, _ => False
  | f + 1, j, n => ∃ k m, StrAt b j k ∧ b k = 58 ∧ Val b (k + 1) m ∧ ((b m = 125 ∧ n = m + 1) ∨ (b m = 44 ∧ Mem b f (m + 1) n))

end Go.Proofs.Qxb6601186a
