/-
  THE WALKS, part A: the look-ups over a list of versions: zzListed, slices.Index, slices.Contains. Each only reads.
-/
import Derived.Test.Qxb6600422aProg
import Derived.WalkKit
import Derived.WalkSpells
import Derived.WalkLawsBesides
namespace Go.Proofs.Qxb6600422a
open Go.RowKit

/-- A slice value of 'n' numbers 'zs' of the kind uint64, as it lies in 'w'. -/
def Holds64 (w : World) (a : Option Addr) (n : Nat) (zs : List Int) : Prop :=
  zs.length = n ∧ n ≤ 9223372036854775807 ∧ (∀ z ∈ zs, 0 ≤ z ∧ z ≤ 18446744073709551615) ∧
  (n = 0 ∨ ∃ b off, a = some ⟨b, off, none⟩ ∧ ∀ i, i < n → w.cell? ⟨b, off + i, none⟩ = some (.int .u64 (zs.getD i 0)))

theorem ret_bool {a b : Bool} (h : a = b) : Ending.returned (.bool a) = .returned (.bool b) := by rw [h]
theorem ret_int {k : IntKind} {a b : Int} (h : a = b) : Ending.returned (.int k a) = .returned (.int k b) := by rw [h]

def hasB (zs : List Int) (v : Int) : Bool := zs.contains v

theorem hasB_hit {zs : List Int} {v : Int} {k : Nat} (hk : k < zs.length) (h : (zs[k] == v) = true) : hasB zs v = true := by
  have h' : zs[k] = v := by simpa using h
  unfold hasB; rw [List.contains_iff_mem]; rw [← h']; exact List.getElem_mem hk

theorem hasB_take_succ {zs : List Int} {v : Int} {k : Nat} (hk : k < zs.length) (h0 : hasB (zs.take k) v = false) (h : (zs[k] == v) = false) : hasB (zs.take (k+1)) v = false := by
  have h' : ¬ zs[k] = v := by simpa using h
  unfold hasB at *
  rw [List.take_succ_eq_append_getElem hk]
  have h0' : v ∉ zs.take k := by simpa using h0
  have : v ∉ zs.take k ++ [zs[k]] := by
    intro hm
    rcases List.mem_append.1 hm with h1 | h1
    · exact h0' h1
    · exact h' (by simpa using (List.mem_singleton.1 h1).symm)
  simpa using this

set_option maxHeartbeats 400000 in
theorem listed_any (a : Option Addr) (n c : Nat) (zs : List Int) (v : Int) (w : World) (hz : Holds64 w a n zs) :
    Calls Try.prog 25 #[.slice a n c, .int .u64 v] w fun e w' => e = .returned (.bool (hasB zs v)) ∧ w' = w := by
  obtain ⟨hlen, hmax, -, h0 | ⟨b, off, rfl, hc⟩⟩ := hz
  · subst h0
    obtain rfl : zs = [] := by simpa using hlen
    go_enter Try.func25, Try.ntmps25
    go_wp2
    refine wp_loop_rounds 1 ?_
    rw [rounds_succ]
    go_wp2
    go_ret
    exact ⟨rfl, rfl⟩
  · go_enter Try.func25, Try.ntmps25
    go_wp2
    go_loop [5] (fun i => ∃ k : Nat, k ≤ n ∧ i = .int .i64 k ∧ hasB (zs.take k) v = false) (fun i => n - (intOf i).toNat)
    case atStart => exact ⟨0, Nat.zero_le _, rfl, rfl⟩
    case round =>
      obtain ⟨k, hk, rfl, hno⟩ := hrel
      have HN : Hid (hasB (zs.take k) v = false) := hno
      clear hno
      have HL : Hid (zs.length = n) := hlen
      by_cases hlt : k < n
      · have hkz : k < zs.length := by omega
        have hcell : w.cell? ⟨b, off + k, none⟩ = some (.int .u64 zs[k]) := by rw [hc k hlt]; simp [List.getD, hkz]
        clear hlen hc
        go_wp2
        · have h : (zs[k] == v) = true := by assumption
          go_ret
          exact ⟨ret_bool (hasB_hit hkz h).symm, rfl⟩
        · have h : (zs[k] == v) = false := by assumption
          go_round
          case rel => exact ⟨k + 1, by omega, by go_num, hasB_take_succ hkz HN.out h⟩
          case measure => simp [intOf]; omega
      · clear hlen hc
        go_wp2
        go_ret
        exact ⟨ret_bool (by have := HN.out; rw [List.take_of_length_le (by rw [HL.out]; omega)] at this; rw [this]), rfl⟩

set_option maxHeartbeats 400000 in
theorem index_any (a : Option Addr) (n c : Nat) (zs : List Int) (v : Int) (w : World) (hz : Holds64 w a n zs) :
    Calls Try.prog 40 #[.slice a n c, .int .u64 v] w fun e w' => (∃ r : Int, e = .returned (.int .i64 r) ∧ decide (0 ≤ r) = hasB zs v) ∧ w' = w := by
  obtain ⟨hlen, hmax, -, h0 | ⟨b, off, rfl, hc⟩⟩ := hz
  · subst h0
    obtain rfl : zs = [] := by simpa using hlen
    go_enter Try.func40, Try.ntmps40
    go_wp2
    refine wp_loop_rounds 1 ?_
    rw [rounds_succ]
    go_wp2
    go_ret
    exact ⟨⟨-1, rfl, rfl⟩, rfl⟩
  · go_enter Try.func40, Try.ntmps40
    go_wp2
    go_loop [8] (fun i => ∃ k : Nat, k ≤ n ∧ i = .int .i64 k ∧ hasB (zs.take k) v = false) (fun i => n - (intOf i).toNat)
    case atStart => exact ⟨0, Nat.zero_le _, rfl, rfl⟩
    case round =>
      obtain ⟨k, hk, rfl, hno⟩ := hrel
      have HN : Hid (hasB (zs.take k) v = false) := hno
      clear hno
      have HL : Hid (zs.length = n) := hlen
      by_cases hlt : k < n
      · have hkz : k < zs.length := by omega
        have hcell : w.cell? ⟨b, off + k, none⟩ = some (.int .u64 zs[k]) := by rw [hc k hlt]; simp [List.getD, hkz]
        clear hlen hc
        go_wp2
        · have h : (v == zs[k]) = true := by assumption
          go_ret
          exact ⟨⟨k, rfl, by rw [hasB_hit hkz (by rw [BEq.comm]; exact h)]; simp⟩, rfl⟩
        · have h : (v == zs[k]) = false := by assumption
          go_round
          case rel => exact ⟨k + 1, by omega, by go_num, hasB_take_succ hkz HN.out (by rw [BEq.comm]; exact h)⟩
          case measure => simp [intOf]; omega
      · clear hlen hc
        go_wp2
        go_ret
        exact ⟨⟨-1, rfl, (by have := HN.out; rw [List.take_of_length_le (by rw [HL.out]; omega)] at this; rw [this]; rfl)⟩, rfl⟩

set_option maxHeartbeats 400000 in
theorem contains_any (a : Option Addr) (n c : Nat) (zs : List Int) (v : Int) (w : World) (hz : Holds64 w a n zs) :
    Calls Try.prog 39 #[.slice a n c, .int .u64 v] w fun e w' => e = .returned (.bool (hasB zs v)) ∧ w' = w := by
  go_enter Try.func39, Try.ntmps39
  go_wp2_with (go_at_call 40; refine (index_any a n c zs v _ hz).mono ?_; rintro e w' ⟨⟨r, rfl, hr⟩, rfl⟩)
  go_ret
  exact ⟨by first | rfl | assumption, rfl⟩

end Go.Proofs.Qxb6600422a
