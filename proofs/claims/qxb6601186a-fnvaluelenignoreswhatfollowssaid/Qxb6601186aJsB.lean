/-
  THE WALK of jvB1String.
-/
import Derived.Test.Qxb6601186aJsA
namespace Go.Proofs.Qxb6601186a
open Go.RowKit

/-- What the loop has proved so far: whatever closes from j closes from the string's first byte. -/
def Cont (b : Nat → Int) (i j : Nat) : Prop := ∀ n, (∃ f, StrB b f j n) → ∃ f, StrB b f (i + 1) n
theorem Cont.start (b : Nat → Int) (i : Nat) : Cont b i (i + 1) := fun _ h => h
theorem Cont.plain {b : Nat → Int} {i j : Nat} (h : Cont b i j) (h0 : 0 ≤ b j) (h1 : b j ≠ 34) (h2 : b j ≠ 92) : Cont b i (j + 1) :=
  fun n ⟨f, hf⟩ => h n ⟨f + 1, h0, .inr (.inl ⟨h1, h2, hf⟩)⟩
theorem Cont.esc {b : Nat → Int} {i j : Nat} (h : Cont b i j) (h1 : b j = 92) : Cont b i (j + 2) :=
  fun n ⟨f, hf⟩ => h n ⟨f + 1, by rw [h1]; omega, .inr (.inr ⟨h1, hf⟩)⟩
theorem Cont.close {b : Nat → Int} {i j : Nat} (h : Cont b i j) (h1 : b j = 34) : ∃ f, StrB b f (i + 1) (j + 1) :=
  h (j + 1) ⟨1, by rw [h1]; omega, .inl ⟨h1, rfl⟩⟩
theorem hexB_plain {c : Int} (h : hexB c = true) : 0 ≤ c ∧ c ≠ 34 ∧ c ≠ 92 := by
  unfold hexB at h
  simp at h
  omega
theorem Cont.uni {b : Nat → Int} {i j : Nat} (h : Cont b i j) (h1 : b j = 92) (hx : ∀ t, 2 ≤ t → t < 6 → hexB (b (j + t)) = true) : Cont b i (j + 6) := by
  have c2 := hexB_plain (hx 2 (by omega) (by omega))
  have c3 := hexB_plain (hx 3 (by omega) (by omega))
  have c4 := hexB_plain (hx 4 (by omega) (by omega))
  have c5 := hexB_plain (hx 5 (by omega) (by omega))
  exact ((((h.esc h1).plain c2.1 c2.2.1 c2.2.2).plain c3.1 c3.2.1 c3.2.2).plain c4.1 c4.2.1 c4.2.2).plain c5.1 c5.2.1 c5.2.2

set_option maxHeartbeats 1600000 in
theorem string_any (s : ByteArray) (i : Nat) (w : World) (hs : s.size ≤ 1048576) (hi : i < s.size) (h34 : bt s i = 34) :
    Calls Try.prog 32 #[.string s, .int .i64 i] w fun e w' => (e = .returned (.int .i64 (-1)) ∨ ∃ n : Nat, e = .returned (.int .i64 n) ∧ StrAt (bt s) i n ∧ n ≤ s.size) ∧ w' = w := by
  have H34 : Hid (bt s i = 34) := h34
  clear h34
  go_enter Try.func32, Try.ntmps32
  go_wp2
  go_loop [5, 6, 7] (fun j _ _ => ∃ J : Nat, J ≤ s.size ∧ j = .int .i64 J ∧ i < J ∧ Cont (bt s) i J) (fun j _ _ => s.size - (intOf j).toNat)
  case atStart => exact ⟨i + 1, by omega, by go_num, by omega, Cont.start _ _⟩
  case round =>
    obtain ⟨J, hJ, rfl, hiJ, hC⟩ := hrel
    have HC : Hid (Cont (bt s) i J) := hC
    clear hC
    by_cases hlt : J < s.size
    · obtain ⟨x, hx⟩ : ∃ x, x = bt s J := ⟨_, rfl⟩
      have hxr := bt_range hlt
      rw [← hx] at hxr
      have ex : ∀ h, ((s[J]'h).toNat : Int) = x := fun h => by rw [hx]; exact bt_at h
      have HX : Hid (x = bt s J) := hx
      clear hx
      rcases (show x = 34 ∨ (x < 32) ∨ (32 ≤ x ∧ x ≠ 34 ∧ x ≠ 92) ∨ x = 92 from by omega) with h | h | ⟨h1, h2, h3⟩ | h
      · subst h
        go_wp2
        go_ret
        exact ⟨.inr ⟨J + 1, by go_num, ⟨H34.out, HC.out.close HX.out.symm⟩, by omega⟩, rfl⟩
      · go_wp2
        go_ret
        exact ⟨.inl rfl, rfl⟩
      · have g1 : (x == 34) = false := by simpa using h2
        have g2 : (x != 92) = true := by simpa [bne] using h3
        have HN : Hid (Cont (bt s) i (J + 1)) := HC.out.plain (by rw [← HX.out]; omega) (by rw [← HX.out]; exact h2) (by rw [← HX.out]; exact h3)
        clear h2 h3
        go_wp2
        go_round
        case rel => exact ⟨J + 1, by omega, by go_num, by omega, HN.out⟩
        case measure => simp [intOf]; omega
      · subst h
        by_cases hl2 : J + 1 < s.size
        · obtain ⟨y, hy⟩ : ∃ y, y = bt s (J + 1) := ⟨_, rfl⟩
          have ey : ∀ h, ((s[J + 1]'h).toNat : Int) = y := fun h => by rw [hy]; exact bt_at h
          have HN : Hid (Cont (bt s) i (J + 2)) := HC.out.esc HX.out.symm
          clear hy
          rcases (show y = 34 ∨ y = 92 ∨ y = 47 ∨ y = 98 ∨ y = 102 ∨ y = 110 ∨ y = 114 ∨ y = 116 ∨ y = 117 ∨ (y ≠ 34 ∧ y ≠ 92 ∧ y ≠ 47 ∧ y ≠ 98 ∧ y ≠ 102 ∧ y ≠ 110 ∧ y ≠ 114 ∧ y ≠ 116 ∧ y ≠ 117) from by omega) with h | h | h | h | h | h | h | h | h | h
          iterate 8
            · subst h
              go_wp2
              go_round
              case rel => exact ⟨J + 2, by omega, by go_num, by omega, HN.out⟩
              case measure => simp [intOf]; omega
          · subst h
            clear HN
            by_cases hl6 : s.size - J < 6
            · go_wp2
              go_ret
              exact ⟨.inl rfl, rfl⟩
            · go_wp2
              go_loop [7] (fun k => ∃ K : Nat, K ≤ 6 ∧ k = .int .i64 K ∧ 2 ≤ K ∧ ∀ t, 2 ≤ t → t < K → hexB (bt s (J + t)) = true) (fun k => 6 - (intOf k).toNat)
              case atStart => exact ⟨2, by omega, rfl, by omega, fun t h1 h2 => by omega⟩
              case round =>
                obtain ⟨K, hK, rfl, hK2, hA⟩ := hrel
                have HA : Hid (∀ t, 2 ≤ t → t < K → hexB (bt s (J + t)) = true) := hA
                clear hA
                by_cases hk : K < 6
                · obtain ⟨z, hz⟩ : ∃ z, z = bt s (J + K) := ⟨_, rfl⟩
                  have ez : ∀ h, ((s[J + K]'h).toNat : Int) = z := fun h => by rw [hz]; exact bt_at h
                  have HZ : Hid (z = bt s (J + K)) := hz
                  clear hz
                  cases hh : hexB z
                  · go_wp2_with (go_at_call 42; refine (jvHex_any z _).mono ?_; rintro e w' ⟨rfl, rfl⟩)
                    go_ret
                    exact ⟨.inl rfl, rfl⟩
                  · have HH : Hid (hexB z = true) := hh
                    go_wp2_with (go_at_call 42; refine (jvHex_any z _).mono ?_; rintro e w' ⟨rfl, rfl⟩)
                    go_round
                    case rel =>
                      refine ⟨K + 1, by omega, by go_num, by omega, fun t h1 h2 => ?_⟩
                      by_cases e : t = K
                      · subst e; rw [← HZ.out]; exact HH.out
                      · exact HA.out t h1 (by omega)
                    case measure => simp [intOf]; omega
                · obtain rfl : K = 6 := by omega
                  have HN : Hid (Cont (bt s) i (J + 6)) := HC.out.uni HX.out.symm HA.out
                  go_wp2
                  go_round
                  case rel => exact ⟨J + 6, by omega, by go_num, by omega, HN.out⟩
                  case measure => simp [intOf]; omega
          · obtain ⟨h1, h2, h3, h4, h5, h6, h7, h8, h9⟩ := h
            have g1 : (y == 34) = false := by simpa using h1
            have g2 : (y == 92) = false := by simpa using h2
            have g3 : (y == 47) = false := by simpa using h3
            have g4 : (y == 98) = false := by simpa using h4
            have g5 : (y == 102) = false := by simpa using h5
            have g6 : (y == 110) = false := by simpa using h6
            have g7 : (y == 114) = false := by simpa using h7
            have g8 : (y == 116) = false := by simpa using h8
            have g9 : (y == 117) = false := by simpa using h9
            clear h1 h2 h3 h4 h5 h6 h7 h8 h9
            go_wp2
            go_ret
            exact ⟨.inl rfl, rfl⟩
        · go_wp2
          go_ret
          exact ⟨.inl rfl, rfl⟩
    · go_wp2
      go_ret
      exact ⟨.inl rfl, rfl⟩

end Go.Proofs.Qxb6601186a
