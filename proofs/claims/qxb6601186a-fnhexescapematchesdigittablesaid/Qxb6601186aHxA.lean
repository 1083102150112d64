/-
  THE WALKS, hexEscape's road: hxB1Digit, hxB1Weight, zzBytes_.., hexEscape, ZZHexEscape.
-/
import Derived.Test.Qxb6601186aProg
import Derived.WalkKit
import Derived.WalkSpells
import Derived.WalkLawsBesides
import Derived.Deep.Light
import Derived.Laws.BitsLemmas
namespace Go.Proofs.Qxb6601186a
open Go.RowKit

theorem ret_bool {a b : Bool} (h : a = b) : Ending.returned (.bool a) = .returned (.bool b) := by rw [h]
theorem ret_int {k : IntKind} {a b : Int} (h : a = b) : Ending.returned (.int k a) = .returned (.int k b) := by rw [h]

/-- A hex digit's value, or -1. -/
def hexv (c : Int) : Int := if 48 ≤ c ∧ c ≤ 57 then c - 48 else if 97 ≤ c ∧ c ≤ 102 then c - 87 else if 65 ≤ c ∧ c ≤ 70 then c - 55 else -1
theorem hexv_range (c : Int) : -1 ≤ hexv c ∧ hexv c ≤ 15 := by unfold hexv; split <;> (try split) <;> (try split) <;> omega

def lowv (k : Nat) : Int := if k < 10 then 48 + (k : Int) else 87 + (k : Int)
def upv (k : Nat) : Int := if k < 10 then 48 + (k : Int) else 55 + (k : Int)

theorem low_get (k : Nat) (hk : k < 16) (h : k < ({ data := #[48, 49, 50, 51, 52, 53, 54, 55, 56, 57, 97, 98, 99, 100, 101, 102] } : ByteArray).size) :
    ((({ data := #[48, 49, 50, 51, 52, 53, 54, 55, 56, 57, 97, 98, 99, 100, 101, 102] } : ByteArray)[k]'h).toNat : Int) = lowv k := by
  have key : ∀ j : Fin 16, ((#[48, 49, 50, 51, 52, 53, 54, 55, 56, 57, 97, 98, 99, 100, 101, 102] : Array UInt8)[j.1].toNat : Int) = lowv j.1 := by decide
  exact key ⟨k, hk⟩
theorem up_get (k : Nat) (hk : k < 16) (h : k < ({ data := #[48, 49, 50, 51, 52, 53, 54, 55, 56, 57, 65, 66, 67, 68, 69, 70] } : ByteArray).size) :
    ((({ data := #[48, 49, 50, 51, 52, 53, 54, 55, 56, 57, 65, 66, 67, 68, 69, 70] } : ByteArray)[k]'h).toNat : Int) = upv k := by
  have key : ∀ j : Fin 16, ((#[48, 49, 50, 51, 52, 53, 54, 55, 56, 57, 65, 66, 67, 68, 69, 70] : Array UInt8)[j.1].toNat : Int) = upv j.1 := by decide
  exact key ⟨k, hk⟩
theorem hexv_low (k : Nat) (hk : k < 16) : hexv (lowv k) = k := by
  unfold hexv lowv
  by_cases h : k < 10
  · rw [if_pos h, if_pos (by omega)]; omega
  · rw [if_neg h, if_neg (by omega), if_pos (by omega)]; omega
theorem hexv_up (k : Nat) (hk : k < 16) : hexv (upv k) = k := by
  unfold hexv upv
  by_cases h : k < 10
  · rw [if_pos h, if_pos (by omega)]; omega
  · rw [if_neg h, if_neg (by omega), if_neg (by omega), if_pos (by omega)]; omega
theorem hexv_only (c : Int) (k : Nat) (h : hexv c = k) : c = lowv k ∨ c = upv k := by
  unfold hexv at h
  unfold lowv upv
  by_cases h1 : 48 ≤ c ∧ c ≤ 57
  · rw [if_pos h1] at h; left; rw [if_pos (by omega)]; omega
  · rw [if_neg h1] at h
    by_cases h2 : 97 ≤ c ∧ c ≤ 102
    · rw [if_pos h2] at h; left; rw [if_neg (by omega)]; omega
    · rw [if_neg h2] at h
      by_cases h3 : 65 ≤ c ∧ c ≤ 70
      · rw [if_pos h3] at h; right; rw [if_neg (by omega)]; omega
      · rw [if_neg h3] at h; omega
theorem hexv_next (c : Int) (k : Nat) (hno : hexv c = -1 ∨ (k : Int) ≤ hexv c) (h1 : ¬ c = lowv k) (h2 : ¬ c = upv k) : hexv c = -1 ∨ ((k + 1 : Nat) : Int) ≤ hexv c := by
  rcases hno with h | h
  · exact .inl h
  · right
    by_cases e : hexv c = k
    · rcases hexv_only c k e with h' | h'
      · exact absurd h' h1
      · exact absurd h' h2
    · omega

set_option maxHeartbeats 800000 in
theorem digit_any (c : Int) (w : World) :
    Calls Try.prog 18 #[.int .u8 c] w fun e w' => e = .returned (.int .i64 (hexv c)) ∧ w' = w := by
  go_enter Try.func18, Try.ntmps18
  go_wp2
  go_loop [3] (fun i => ∃ k : Nat, k ≤ 16 ∧ i = .int .i64 k ∧ (hexv c = -1 ∨ (k : Int) ≤ hexv c)) (fun i => 16 - (intOf i).toNat)
  case atStart => exact ⟨0, by omega, rfl, by have := hexv_range c; omega⟩
  case round =>
    obtain ⟨k, hk, rfl, hno⟩ := hrel
    have HN : Hid (hexv c = -1 ∨ (k : Int) ≤ hexv c) := hno
    clear hno
    by_cases hlt : k < 16
    · by_cases e1 : c = lowv k
      · have E1 : Hid (hexv c = k) := by rw [e1]; exact hexv_low k hlt
        have hq : ∀ h, (c == ((({ data := #[48, 49, 50, 51, 52, 53, 54, 55, 56, 57, 97, 98, 99, 100, 101, 102] } : ByteArray)[k]'h).toNat : Int)) = true := fun h => by rw [low_get k hlt h]; simpa using e1
        clear e1
        go_wp2
        go_ret
        exact ⟨ret_int E1.out.symm, rfl⟩
      · have hq : ∀ h, (c == ((({ data := #[48, 49, 50, 51, 52, 53, 54, 55, 56, 57, 97, 98, 99, 100, 101, 102] } : ByteArray)[k]'h).toNat : Int)) = false := fun h => by rw [low_get k hlt h]; simpa using e1
        by_cases e2 : c = upv k
        · have E1 : Hid (hexv c = k) := by rw [e2]; exact hexv_up k hlt
          have hq2 : ∀ h, (c == ((({ data := #[48, 49, 50, 51, 52, 53, 54, 55, 56, 57, 65, 66, 67, 68, 69, 70] } : ByteArray)[k]'h).toNat : Int)) = true := fun h => by rw [up_get k hlt h]; simpa using e2
          clear e1 e2
          go_wp2
          go_ret
          exact ⟨ret_int E1.out.symm, rfl⟩
        · have hq2 : ∀ h, (c == ((({ data := #[48, 49, 50, 51, 52, 53, 54, 55, 56, 57, 65, 66, 67, 68, 69, 70] } : ByteArray)[k]'h).toNat : Int)) = false := fun h => by rw [up_get k hlt h]; simpa using e2
          have E1 : Hid (hexv c = -1 ∨ ((k + 1 : Nat) : Int) ≤ hexv c) := hexv_next c k HN.out e1 e2
          clear e1 e2
          go_wp2
          go_round
          case rel => exact ⟨k + 1, by omega, by go_num, E1.out⟩
          case measure => simp [intOf]; omega
    · have E1 : Hid (hexv c = -1) := by
        have := hexv_range c
        rcases HN.out with h | h
        · exact h
        · omega
      go_wp2
      go_ret
      exact ⟨ret_int E1.out.symm, rfl⟩

def wt (k : Int) : Int := if k = 2 then 4096 else if k = 3 then 256 else if k = 4 then 16 else 1

set_option maxHeartbeats 800000 in
theorem weight_any (k : Int) (w : World) :
    Calls Try.prog 19 #[.int .i64 k] w fun e w' => e = .returned (.int .i32 (wt k)) ∧ w' = w := by
  by_cases h2 : k = 2
  · subst h2
    go_enter Try.func19, Try.ntmps19
    go_wp2
    go_ret
    exact ⟨rfl, rfl⟩
  by_cases h3 : k = 3
  · subst h3
    go_enter Try.func19, Try.ntmps19
    go_wp2
    go_ret
    exact ⟨rfl, rfl⟩
  by_cases h4 : k = 4
  · subst h4
    go_enter Try.func19, Try.ntmps19
    go_wp2
    go_ret
    exact ⟨rfl, rfl⟩
  have E : Hid (wt k = 1) := by unfold Hid wt; rw [if_neg h2, if_neg h3, if_neg h4]
  have g2 : (k == 2) = false := by simpa using h2
  have g3 : (k == 3) = false := by simpa using h3
  have g4 : (k == 4) = false := by simpa using h4
  clear h2 h3 h4
  go_enter Try.func19, Try.ntmps19
  go_wp2
  go_ret
  exact ⟨ret_int E.out.symm, rfl⟩

set_option maxHeartbeats 800000 in
theorem hexBytes_any (a : Option Addr) (n c : Nat) (w : World) (hn : n ≤ maxLen) :
    Calls Try.prog 16 #[.slice a n c] w fun e w' => e = .returned (.bool (decide (n ≤ 1048576))) ∧ w' = w := by
  unfold maxLen at hn
  by_cases h : n ≤ 1048576
  · have E : Hid (decide (n ≤ 1048576) = true) := by unfold Hid; simpa using h
    go_enter Try.func16, Try.ntmps16
    go_wp2
    go_ret
    exact ⟨ret_bool E.out.symm, rfl⟩
  · have E : Hid (decide (n ≤ 1048576) = false) := by unfold Hid; simpa using h
    go_enter Try.func16, Try.ntmps16
    go_wp2
    go_ret
    exact ⟨ret_bool E.out.symm, rfl⟩

end Go.Proofs.Qxb6601186a
