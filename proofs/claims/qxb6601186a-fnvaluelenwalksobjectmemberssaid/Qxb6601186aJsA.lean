/-
  THE WALKS of the law's grammar, its leaves: jvB1Hex, jvB1Digit, jvB1Opens, jvB1Word, jvB1String.
-/
import Derived.Test.Qxb6601186aProg
import Derived.Test.Qxb6601186aJsP
import Derived.WalkKit
import Derived.WalkSpells
import Derived.WalkLawsBesides
import Derived.Deep.Light
import Derived.BigQuiet
import Derived.Deep.QuietTactic
namespace Go.Proofs.Qxb6601186a
open Go.RowKit

theorem rb {a b : Bool} (h : a = b) : Ending.returned (.bool a) = .returned (.bool b) := by rw [h]

/-- A hex digit's byte. -/
def hexB (c : Int) : Bool := decide (48 ≤ c ∧ c ≤ 57) || decide (97 ≤ c ∧ c ≤ 102) || decide (65 ≤ c ∧ c ≤ 70)
def digB (c : Int) : Bool := decide (48 ≤ c ∧ c ≤ 57)
def opnB (c : Int) : Bool := decide (c = 34 ∨ c = 123 ∨ c = 91)

set_option maxHeartbeats 400000 in
theorem jvHex_any (c : Int) (w : World) : Calls Try.prog 42 #[.int .u8 c] w fun e w' => e = .returned (.bool (hexB c)) ∧ w' = w := by
  rcases (show (48 ≤ c ∧ c ≤ 57) ∨ (97 ≤ c ∧ c ≤ 102) ∨ (65 ≤ c ∧ c ≤ 70) ∨ c < 48 ∨ (57 < c ∧ c < 65) ∨ (70 < c ∧ c < 97) ∨ 102 < c from by omega) with h | h | h | h | h | h | h
  all_goals
    first
      | (have HX : Hid (hexB c = true) := by unfold Hid hexB; simp; omega
         go_enter Try.func42, Try.ntmps42
         go_wp2
         go_ret
         first | exact ⟨rb HX.out.symm, rfl⟩ | exact ⟨rb (by rw [HX.out]; go_light; simp; omega), rfl⟩)
      | (have HX : Hid (hexB c = false) := by unfold Hid hexB; simp; omega
         go_enter Try.func42, Try.ntmps42
         go_wp2
         go_ret
         first | exact ⟨rb HX.out.symm, rfl⟩ | exact ⟨rb (by rw [HX.out]; go_light; simp; omega), rfl⟩)

set_option maxHeartbeats 400000 in
theorem jvDigit_any (c : Int) (w : World) : Calls Try.prog 36 #[.int .u8 c] w fun e w' => e = .returned (.bool (digB c)) ∧ w' = w := by
  rcases (show (48 ≤ c ∧ c ≤ 57) ∨ c < 48 ∨ 57 < c from by omega) with h | h | h
  · have HX : Hid (digB c = true) := by unfold Hid digB; simp; omega
    go_enter Try.func36, Try.ntmps36
    go_wp2
    go_ret
    exact ⟨rb HX.out.symm, rfl⟩
  · have HX : Hid (digB c = false) := by unfold Hid digB; simp; omega
    go_enter Try.func36, Try.ntmps36
    go_wp2
    go_ret
    exact ⟨rb HX.out.symm, rfl⟩
  · have HX : Hid (digB c = false) := by unfold Hid digB; simp; omega
    go_enter Try.func36, Try.ntmps36
    go_wp2
    go_ret
    exact ⟨rb (by rw [HX.out]; go_light; simp; omega), rfl⟩

set_option maxHeartbeats 400000 in
theorem jvOpens_any (c : Int) (w : World) : Calls Try.prog 12 #[.int .u8 c] w fun e w' => e = .returned (.bool (opnB c)) ∧ w' = w := by
  rcases (show c = 34 ∨ c = 123 ∨ c = 91 ∨ (c ≠ 34 ∧ c ≠ 123 ∧ c ≠ 91) from by omega) with h | h | h | ⟨h1, h2, h3⟩
  · subst h
    go_enter Try.func12, Try.ntmps12
    go_wp2
    go_ret
    exact ⟨rb rfl, rfl⟩
  · subst h
    go_enter Try.func12, Try.ntmps12
    go_wp2
    go_ret
    exact ⟨rb rfl, rfl⟩
  · subst h
    go_enter Try.func12, Try.ntmps12
    go_wp2
    go_ret
    exact ⟨rb rfl, rfl⟩
  · have HX : Hid (opnB c = false) := by unfold Hid opnB; simp; omega
    have g1 : (c == 34) = false := by simpa using h1
    have g2 : (c == 123) = false := by simpa using h2
    have g3 : (c == 91) = false := by simpa using h3
    clear h1 h2 h3
    go_enter Try.func12, Try.ntmps12
    go_wp2
    go_ret
    exact ⟨rb HX.out.symm, rfl⟩

/-- Nothing has turned but the count of draws. -/
def Drawn (w w' : World) : Prop := ∃ k, w' = w.drewN k
theorem Drawn.refl (w : World) : Drawn w w := ⟨0, rfl⟩
theorem Drawn.trans {a b c : World} (h : Drawn a b) (k : Drawn b c) : Drawn a c := by
  obtain ⟨m, rfl⟩ := h
  obtain ⟨n, rfl⟩ := k
  exact ⟨m + n, by simp [World.drewN, Nat.add_assoc]⟩
theorem Drawn.more {a b : World} (h : Drawn a b) (n : Nat) : Drawn a (b.drewN n) := h.trans ⟨n, rfl⟩

set_option maxHeartbeats 800000 in
theorem word_any (s : ByteArray) (i : Nat) (u : ByteArray) (w : World) (hs : s.size ≤ 1048576) (hi : i ≤ s.size) (hu : u.size ≤ 16) :
    Calls Try.prog 35 #[.string s, .int .i64 i, .string u] w fun e w' => (e = .returned (.int .i64 (-1)) ∨ (e = .returned (.int .i64 ((i + u.size : Nat) : Int)) ∧ i + u.size ≤ s.size ∧ ∀ k, k < u.size → bt s (i + k) = bt u k)) ∧ Drawn w w' := by
  by_cases hsm : s.size - i < u.size
  · go_enter Try.func35, Try.ntmps35
    go_wp2
    go_ret
    exact ⟨.inl rfl, Drawn.refl _⟩
  · have hfit : i + u.size ≤ s.size := by omega
    go_enter Try.func35, Try.ntmps35
    go_wp2
    go_loopw [7] (fun k wr => ∃ j : Nat, j ≤ u.size ∧ k = .int .i64 j ∧ (∀ k, k < j → bt s (i + k) = bt u k) ∧ Drawn w wr) (fun k _ => u.size - (intOf k).toNat)
    case atStart => exact ⟨0, by omega, rfl, fun k hk => by omega, Drawn.refl _⟩
    case round =>
      obtain ⟨j, hj, rfl, hall, hdr⟩ := hrel
      have HA : Hid (∀ k, k < j → bt s (i + k) = bt u k) := hall
      clear hall
      by_cases hlt : j < u.size
      · obtain ⟨x, hx⟩ : ∃ x, x = bt s (i + j) := ⟨_, rfl⟩
        obtain ⟨y, hy⟩ : ∃ y, y = bt u j := ⟨_, rfl⟩
        have ex : ∀ h, ((s[i + j]'h).toNat : Int) = x := fun h => by rw [hx]; exact bt_at h
        have ey : ∀ h, ((u[j]'h).toNat : Int) = y := fun h => by rw [hy]; exact bt_at h
        have HX : Hid (x = bt s (i + j)) := hx
        have HY : Hid (y = bt u j) := hy
        clear hx hy
        have hb1 : i + j < s.size := by omega
        have e1 : IntKind.i64.wrap ((i : Int) + (j : Int)) = (i : Int) + (j : Int) := by rw [IntKind.wrap_i64]; omega
        have e2 : ((i : Int) + (j : Int)).toNat = i + j := by omega
        have b0 : (0 : Int) ≤ (i : Int) + (j : Int) := by omega
        have b1 : (i : Int) + (j : Int) < (s.size : Int) := by omega
        have b2 : (j : Int) < (u.size : Int) := by omega
        go_wp2
        go_quiet (fail)
        by_cases hxy : (x != y) = true
        · go_wp2
          go_ret
          exact ⟨.inl rfl, hdr.more _⟩
        · have hxy' : (x != y) = false := by simpa using hxy
          have HE : Hid (x = y) := by unfold Hid; simpa using hxy
          clear hxy
          go_wp2
          go_roundw
          case rel =>
            refine ⟨j + 1, by omega, by go_num, fun k hk => ?_, hdr.more _⟩
            by_cases e : k = j
            · subst e; rw [← HX.out, ← HY.out]; exact HE.out
            · exact HA.out k (by omega)
          case measure => simp [intOf]; omega
      · obtain rfl : j = u.size := by omega
        go_wp2
        go_ret
        exact ⟨.inr ⟨rfl, hfit, HA.out⟩, hdr⟩

end Go.Proofs.Qxb6601186a
