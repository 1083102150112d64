/-
  THE WALK of jvB1Value, by induction on what is left of the string.
-/
import Derived.Test.Qxb6601186aJsC
import Derived.Test.Qxb6601186aJsE
namespace Go.Proofs.Qxb6601186a
open Go.RowKit

theorem word_plain {s u : ByteArray} {i : Nat} (h : ∀ k, k < u.size → bt s (i + k) = bt u k) (hu : ∀ k, k < u.size → PlainC (bt u k)) : Plain (bt s) i (i + u.size) := by
  intro j h1 h2
  obtain ⟨k, rfl⟩ : ∃ k, j = i + k := ⟨j - i, by omega⟩
  rw [h k (by omega)]
  exact hu k (by omega)
theorem true_plain : ∀ k, k < (⟨#[116, 114, 117, 101]⟩ : ByteArray).size → PlainC (bt ⟨#[116, 114, 117, 101]⟩ k) := by
  have key : ∀ k : Fin 4, PlainC (bt ⟨#[116, 114, 117, 101]⟩ k.1) := by unfold PlainC bt; decide
  exact fun k hk => key ⟨k, hk⟩
theorem false_plain : ∀ k, k < (⟨#[102, 97, 108, 115, 101]⟩ : ByteArray).size → PlainC (bt ⟨#[102, 97, 108, 115, 101]⟩ k) := by
  have key : ∀ k : Fin 5, PlainC (bt ⟨#[102, 97, 108, 115, 101]⟩ k.1) := by unfold PlainC bt; decide
  exact fun k hk => key ⟨k, hk⟩
theorem null_plain : ∀ k, k < (⟨#[110, 117, 108, 108]⟩ : ByteArray).size → PlainC (bt ⟨#[110, 117, 108, 108]⟩ k) := by
  have key : ∀ k : Fin 4, PlainC (bt ⟨#[110, 117, 108, 108]⟩ k.1) := by unfold PlainC bt; decide
  exact fun k hk => key ⟨k, hk⟩

theorem Plain.val {s : ByteArray} {i n : Nat} (h : Plain (bt s) i n) (hl : i < n) : Val (bt s) i n := ⟨hl, (h (n - 1) (by omega) (by omega)).1, .inr (.inr h)⟩
theorem StrAt.val {b : Nat → Int} {i n : Nat} (h : StrAt b i n) : Val b i n := ⟨by have := h.lt.1; omega, h.lt.2, .inl h⟩

/-- A word's contract as the value's walk takes it. -/
theorem word_val (s : ByteArray) (i : Nat) (u : ByteArray) (w : World) (hs : s.size ≤ 1048576) (hi : i ≤ s.size) (hu : u.size ≤ 16) (hu0 : 0 < u.size) (hp : ∀ k, k < u.size → PlainC (bt u k)) :
    Calls Try.prog 35 #[.string s, .int .i64 i, .string u] w fun e w' => (e = .returned (.int .i64 (-1)) ∨ ∃ n : Nat, e = .returned (.int .i64 n) ∧ n ≤ s.size ∧ Val (bt s) i n) ∧ Drawn w w' := by
  refine (word_any s i u w hs hi hu).mono ?_
  rintro e w' ⟨rfl | ⟨rfl, h1, h2⟩, hd⟩
  · exact ⟨.inl rfl, hd⟩
  · exact ⟨.inr ⟨i + u.size, rfl, h1, (word_plain h2 hp).val (by omega)⟩, hd⟩

set_option maxHeartbeats 3200000 in
theorem value_step (s : ByteArray) (i : Nat) (hs : s.size ≤ 1048576) (HV : Hid (i < s.size → ∀ j, i < j → ValC s j)) : ValC s i := by
  intro w
  by_cases hi : i < s.size
  case neg =>
    go_enter Try.func11, Try.ntmps11
    go_wp2_with fail
    go_ret
    exact ⟨.inl rfl, Drawn.refl _⟩
  obtain ⟨c, hc⟩ : ∃ c, c = bt s i := ⟨_, rfl⟩
  have ec : ∀ h, ((s[i]'h).toNat : Int) = c := fun h => by rw [hc]; exact bt_at h
  have HC : Hid (bt s i = c) := hc.symm
  clear hc
  rcases (show c = 34 ∨ c = 123 ∨ c = 91 ∨ c = 116 ∨ c = 102 ∨ c = 110 ∨ c = 45 ∨ (c ≠ 34 ∧ c ≠ 123 ∧ c ≠ 91 ∧ c ≠ 116 ∧ c ≠ 102 ∧ c ≠ 110 ∧ c ≠ 45) from by omega) with h | h | h | h | h | h | h | ⟨h1, h2, h3, h4, h5, h6, h7⟩
  · subst h
    go_enter Try.func11, Try.ntmps11
    go_wp2_with fail
    refine (string_any s i _ hs hi HC.out).mono ?_
    rintro e w1 ⟨he, hw1⟩
    rw [hw1]
    clear hw1
    rcases he with rfl | ⟨n, rfl, h1, h2⟩
    · go_wp2_with fail
      go_ret
      exact ⟨.inl rfl, Drawn.refl _⟩
    · have HR : Hid (Val (bt s) i n ∧ (bt s i = 123 → ObjM (bt s) i n)) := ⟨h1.val, fun h => by rw [HC.out] at h; omega⟩
      clear h1
      go_wp2_with fail
      go_ret
      exact ⟨.inr ⟨n, rfl, h2, HR.out⟩, Drawn.refl _⟩
  · subst h
    go_enter Try.func11, Try.ntmps11
    go_wp2_with fail
    refine (object_any s i _ hs hi HC.out (HV.out hi)).mono ?_
    rintro e w1 ⟨he, hD⟩
    rcases he with rfl | ⟨n, rfl, h1, h2, h3⟩
    · go_wp2_with fail
      go_ret
      exact ⟨.inl rfl, hD⟩
    · have HR : Hid (Val (bt s) i n ∧ (bt s i = 123 → ObjM (bt s) i n)) := ⟨h2.val, fun _ => h3⟩
      clear h2 h3
      go_wp2_with fail
      go_ret
      exact ⟨.inr ⟨n, rfl, h1, HR.out⟩, hD⟩
  · subst h
    go_enter Try.func11, Try.ntmps11
    go_wp2_with fail
    refine (array_any s i _ hs hi HC.out (HV.out hi)).mono ?_
    rintro e w1 ⟨he, hD⟩
    rcases he with rfl | ⟨n, rfl, h1, h2⟩
    · go_wp2_with fail
      go_ret
      exact ⟨.inl rfl, hD⟩
    · have HR : Hid (Val (bt s) i n ∧ (bt s i = 123 → ObjM (bt s) i n)) := ⟨h2.val, fun h => by rw [HC.out] at h; omega⟩
      clear h2
      go_wp2_with fail
      go_ret
      exact ⟨.inr ⟨n, rfl, h1, HR.out⟩, hD⟩
  · subst h
    go_enter Try.func11, Try.ntmps11
    go_wp2_with fail
    refine (word_val s i ⟨#[116, 114, 117, 101]⟩ _ hs (by omega) (by decide) (by decide) true_plain).mono ?_
    rintro e w1 ⟨he, hD⟩
    rcases he with rfl | ⟨n, rfl, h1, h2⟩
    · go_wp2_with fail
      go_ret
      exact ⟨.inl rfl, hD⟩
    · have HR : Hid (Val (bt s) i n ∧ (bt s i = 123 → ObjM (bt s) i n)) := ⟨h2, fun h => by rw [HC.out] at h; omega⟩
      clear h2
      go_wp2_with fail
      go_ret
      exact ⟨.inr ⟨n, rfl, h1, HR.out⟩, hD⟩
  · subst h
    go_enter Try.func11, Try.ntmps11
    go_wp2_with fail
    refine (word_val s i ⟨#[102, 97, 108, 115, 101]⟩ _ hs (by omega) (by decide) (by decide) false_plain).mono ?_
    rintro e w1 ⟨he, hD⟩
    rcases he with rfl | ⟨n, rfl, h1, h2⟩
    · go_wp2_with fail
      go_ret
      exact ⟨.inl rfl, hD⟩
    · have HR : Hid (Val (bt s) i n ∧ (bt s i = 123 → ObjM (bt s) i n)) := ⟨h2, fun h => by rw [HC.out] at h; omega⟩
      clear h2
      go_wp2_with fail
      go_ret
      exact ⟨.inr ⟨n, rfl, h1, HR.out⟩, hD⟩
  · subst h
    go_enter Try.func11, Try.ntmps11
    go_wp2_with fail
    refine (word_val s i ⟨#[110, 117, 108, 108]⟩ _ hs (by omega) (by decide) (by decide) null_plain).mono ?_
    rintro e w1 ⟨he, hD⟩
    rcases he with rfl | ⟨n, rfl, h1, h2⟩
    · go_wp2_with fail
      go_ret
      exact ⟨.inl rfl, hD⟩
    · have HR : Hid (Val (bt s) i n ∧ (bt s i = 123 → ObjM (bt s) i n)) := ⟨h2, fun h => by rw [HC.out] at h; omega⟩
      clear h2
      go_wp2_with fail
      go_ret
      exact ⟨.inr ⟨n, rfl, h1, HR.out⟩, hD⟩
  · subst h
    go_enter Try.func11, Try.ntmps11
    go_wp2_with fail
    refine (number_any s i _ hs hi).mono ?_
    rintro e w1 ⟨he, hw1⟩
    rw [hw1]
    clear hw1
    rcases he with rfl | ⟨n, rfl, h1, h2, h3⟩
    · go_wp2_with fail
      go_ret
      exact ⟨.inl rfl, Drawn.refl _⟩
    · have HR : Hid (Val (bt s) i n ∧ (bt s i = 123 → ObjM (bt s) i n)) := ⟨h3.val h1, fun h => by rw [HC.out] at h; omega⟩
      clear h3
      go_wp2_with fail
      go_ret
      exact ⟨.inr ⟨n, rfl, h2, HR.out⟩, Drawn.refl _⟩
  · have g1 : (c == 34) = false := by simpa using h1
    have g2 : (c == 123) = false := by simpa using h2
    have g3 : (c == 91) = false := by simpa using h3
    have g4 : (c == 116) = false := by simpa using h4
    have g5 : (c == 102) = false := by simpa using h5
    have g6 : (c == 110) = false := by simpa using h6
    have g7 : (c == 45) = false := by simpa using h7
    have HNB : Hid (c ≠ 123) := h2
    clear h1 h2 h3 h4 h5 h6 h7
    cases hd : digB c
    · go_enter Try.func11, Try.ntmps11
      go_wp2_with (go_at_call 36; refine (jvDigit_any c _).mono ?_; rintro e w' ⟨rfl, hw'⟩; rw [hw']; clear hw')
      go_ret
      exact ⟨.inl rfl, Drawn.refl _⟩
    · go_enter Try.func11, Try.ntmps11
      go_wp2_with (go_at_call 36; refine (jvDigit_any c _).mono ?_; rintro e w' ⟨rfl, hw'⟩; rw [hw']; clear hw')
      refine (number_any s i _ hs hi).mono ?_
      rintro e w1 ⟨he, hw1⟩
      rw [hw1]
      clear hw1
      rcases he with rfl | ⟨n, rfl, h1, h2, h3⟩
      · go_wp2_with fail
        go_ret
        exact ⟨.inl rfl, Drawn.refl _⟩
      · have HR : Hid (Val (bt s) i n ∧ (bt s i = 123 → ObjM (bt s) i n)) := ⟨h3.val h1, fun h => by rw [HC.out] at h; exact absurd h HNB.out⟩
        clear h3
        go_wp2_with fail
        go_ret
        exact ⟨.inr ⟨n, rfl, h2, HR.out⟩, Drawn.refl _⟩

theorem value_all (s : ByteArray) (hs : s.size ≤ 1048576) : ∀ (k i : Nat), s.size - i < k → ValC s i
  | 0, _, h => absurd h (by omega)
  | k + 1, i, h => value_step s i hs (fun hi j hj => value_all s hs k j (by omega))

end Go.Proofs.Qxb6601186a
