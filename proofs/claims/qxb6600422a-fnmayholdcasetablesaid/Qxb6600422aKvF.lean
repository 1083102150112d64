/-
  THE WALKS, part F: zzCondition.
-/
import Derived.Test.Qxb6600422aKvE
namespace Go.Proofs.Qxb6600422a
open Go.RowKit

theorem match_none (w : World) (any : Bool) (zs : List Int) : MatchAt w false any zs none := .inl ⟨rfl, rfl⟩
theorem match_new {w : World} {a : Option Addr} {n c : Nat} {zs : List Int} (any : Bool) (B : Nat) (hB : w.heap.size = B) (hz : Holds64 w a n zs) (hs : Shaped a n c) :
    MatchAt (w.alloc (.cells #[.bool any, .slice a n c] 54)) true any zs (some ⟨B, 0, none⟩) := by
  subst hB
  refine .inr ⟨rfl, w.heap.size, a, n, c, rfl, ?_, ?_, hz.alloc _, hs⟩
  · rw [blk_cell (blk_new w _ _)]; rfl
  · rw [blk_cell (blk_new w _ _)]; rfl

set_option maxHeartbeats 1600000 in
theorem condition_any (hm am : Bool) (a1 : Option Addr) (n1 c1 : Nat) (ms : List Int) (hn an : Bool) (a2 : Option Addr) (n2 c2 : Nat) (ns : List Int) (w : World) (h1 : Holds64 w a1 n1 ms) (h2 : Holds64 w a2 n2 ns)
    (s1 : Shaped a1 n1 c1) (s2 : Shaped a2 n2 c2) :
    Calls Try.prog 15 #[.agg #[.bool hm, .bool am, .slice a1 n1 c1, .bool hn, .bool an, .slice a2 n2 c2]] w fun e w' => ∃ p1 p2, e = .returned (.agg #[.pointer p1, .pointer p2]) ∧
      MatchAt w' hm am ms p1 ∧ MatchAt w' hn an ns p2 ∧ Below w.heap.size w w' := by
  cases hm <;> cases hn
  · go_enter Try.func15, Try.ntmps15
    go_wp2_with fail
    refine bodyPost_ret (v := .agg #[.pointer none, .pointer none]) (by simp [results, Try.results15, go_sem]) rfl ⟨none, none, rfl, match_none _ _ _, match_none _ _ _, ?_⟩
    refine Below.alloc (Below.alloc (Below.alloc (Below.refl _ _) (Nat.le_refl _) _) (by simp) _) (by simp; omega) _
  · go_enter Try.func15, Try.ntmps15
    go_wp2_with fail
    refine bodyPost_ret (v := .agg #[.pointer none, .pointer (some ⟨w.heap.size + 1 + 1 + 1, 0, none⟩)]) (by simp [results, Try.results15, go_sem]) rfl ⟨none, _, rfl, match_none _ _ _, match_new an _ (by simp) (((h2.alloc _).alloc _).alloc _) s2, ?_⟩
    refine Below.alloc (Below.alloc (Below.alloc (Below.alloc (Below.refl _ _) (Nat.le_refl _) _) (by simp) _) (by simp; omega) _) (by simp; omega) _
  · go_enter Try.func15, Try.ntmps15
    go_wp2_with fail
    refine bodyPost_ret (v := .agg #[.pointer (some ⟨w.heap.size + 1 + 1 + 1, 0, none⟩), .pointer none]) (by simp [results, Try.results15, go_sem]) rfl ⟨_, none, rfl, match_new am _ (by simp) (((h1.alloc _).alloc _).alloc _) s1, match_none _ _ _, ?_⟩
    refine Below.alloc (Below.alloc (Below.alloc (Below.alloc (Below.refl _ _) (Nat.le_refl _) _) (by simp) _) (by simp; omega) _) (by simp; omega) _
  · go_enter Try.func15, Try.ntmps15
    go_wp2_with fail
    refine bodyPost_ret (v := .agg #[.pointer (some ⟨w.heap.size + 1 + 1 + 1, 0, none⟩), .pointer (some ⟨w.heap.size + 1 + 1 + 1 + 1, 0, none⟩)]) (by simp [results, Try.results15, go_sem]) rfl
      ⟨_, _, rfl, (match_new am _ (by simp) (((h1.alloc _).alloc _).alloc _) s1).alloc _, match_new an _ (by simp) ((((h2.alloc _).alloc _).alloc _).alloc _) s2, ?_⟩
    refine Below.alloc (Below.alloc (Below.alloc (Below.alloc (Below.alloc (Below.refl _ _) (Nat.le_refl _) _) (by simp) _) (by simp; omega) _) (by simp; omega) _) (by simp; omega) _

end Go.Proofs.Qxb6600422a
