/-
  THE WALKS: cloneInts, firstInCycle, ZZfirstInCycle.
-/
import Derived.Test.Qxb6601261aCyA
namespace Go.Proofs.Qxb6601261a
open Go.RowKit

theorem nil22 (W : World) (a : Option Addr) (n c n' c' : Nat) : (binOp .eql 22 (.slice a n c) (.slice none n' c')).run Try.prog W = .ok (.bool a.isNone) W := Lib.run_eql_slice_nil W _ _ a n c n' c' Try.underlying22

set_option maxHeartbeats 800000 in
theorem clone_any (a : Option Addr) (n c : Nat) (ps : List Int) (w : World) (hz : HoldsI w a n ps) (hsh : a = none → n = 0 ∧ c = 0) (hn : n ≤ 1048576) :
    Calls Try.prog 8 #[.slice a n c] w fun e w' => ((e = .returned (.slice none 0 0) ∧ n = 0) ∨ (e = .returned (.slice (some ⟨w.heap.size, 0, none⟩) n n) ∧ RowF w' w.heap.size 3 n (fun i => .int .i64 (ps.getD i (-1))))) ∧ Below w.heap.size w w' := by
  have hnil := nil22
  cases a with
  | none =>
    obtain ⟨rfl, rfl⟩ := hsh rfl
    go_enter Try.func8, Try.ntmps8
    go_wp2
    go_ret
    first | exact ⟨.inl ⟨rfl, rfl⟩, Below.refl _ _⟩ | exact ⟨.inl rfl, Below.refl _ _⟩
  | some ad =>
    have HZ : Hid (HoldsI w (some ad) n ps) := hz
    clear hz hsh
    go_enter Try.func8, Try.ntmps8
    go_wp2_with (at_make; refine wpList_make_row rfl _ _ 22 3 rfl (.int .i64 0) 8 Try.underlying22 Try.info3 (by omega) rfl n rfl rfl hn ?_; intro w1 hrow hb1)
    have HR0 : RowF w1 w.heap.size 3 n (fun i => .int .i64 (if i < 0 then ps.getD i (-1) else 0)) := hrow.congr (fun i _ => by rw [if_neg (by omega)])
    clear hrow
    go_loopw [4] (fun i wr => ∃ k : Nat, k ≤ n ∧ i = .int .i64 k ∧ RowF wr w.heap.size 3 n (fun i => .int .i64 (if i < k then ps.getD i (-1) else 0)) ∧ Below w.heap.size w wr) (fun i _ => n - (intOf i).toNat)
    case atStart => exact ⟨0, Nat.zero_le _, rfl, HR0, hb1⟩
    case round =>
      obtain ⟨k, hk, rfl, hrow, hbel⟩ := hrel
      clear HR0 hb1
      by_cases hlt : k < n
      · obtain ⟨b, off, hab, hcc⟩ := HZ.out.place hlt
        simp only [Option.some.injEq] at hab
        subst hab
        have hcell : wr.cell? ⟨b, off + k, none⟩ = some (.int .i64 (ps.getD k (-1))) := by rw [hbel.cell (p := ⟨b, off + k, none⟩) (cell_block (hcc k hlt)), hcc k hlt]
        have hto : wr.cell? ⟨w.heap.size, k, none⟩ = some (.int .i64 0) := by rw [hrow.cell hlt, if_neg (by omega)]
        have hfr : wr.frozen? ⟨w.heap.size, k, none⟩ = false := hrow.free
        obtain ⟨y, hy⟩ : ∃ y, y = ps.getD k (-1) := ⟨_, rfl⟩
        rw [← hy] at hcell
        have HR : Hid (RowF (wr.setCell ⟨w.heap.size, k, none⟩ (.int .i64 y)) w.heap.size 3 n (fun i => .int .i64 (if i < k + 1 then ps.getD i (-1) else 0))) := by
          refine (hrow.set (j := k) (.int .i64 y)).congr (fun i _ => ?_)
          by_cases e : i = k
          · subst e; rw [upd_same, if_pos (by omega), hy]
          · rw [upd_other _ _ e]
            by_cases h : i < k
            · rw [if_pos h, if_pos (by omega)]
            · rw [if_neg h, if_neg (by omega)]
        clear hrow hcc hy
        go_wp2
        go_roundw
        case rel => exact ⟨k + 1, by omega, by go_num, HR.out, hbel.setCell (Nat.le_refl _) _⟩
        case measure => simp [intOf]; omega
      · have HR : Hid (RowF wr w.heap.size 3 n (fun i => .int .i64 (ps.getD i (-1)))) := hrow.congr (fun i hi => by rw [if_pos (by omega)])
        clear hrow
        go_wp2
        go_ret
        exact ⟨.inr ⟨rfl, HR.out⟩, hbel⟩

set_option maxHeartbeats 400000 in
theorem cyBytes11 (a : Option Addr) (n c : Nat) (w : World) (hn : n ≤ maxLen) : Calls Try.prog 11 #[.slice a n c] w fun e w' => e = .returned (.bool (decide (n ≤ 1048576))) ∧ w' = w := by
  unfold maxLen at hn
  by_cases h : n ≤ 1048576
  · have E : Hid (decide (n ≤ 1048576) = true) := by unfold Hid; simpa using h
    go_enter Try.func11, Try.ntmps11
    go_wp2
    go_ret
    exact ⟨rb E.out.symm, rfl⟩
  · have E : Hid (decide (n ≤ 1048576) = false) := by unfold Hid; simpa using h
    go_enter Try.func11, Try.ntmps11
    go_wp2
    go_ret
    exact ⟨rb E.out.symm, rfl⟩
set_option maxHeartbeats 400000 in
theorem cyBytes13 (a : Option Addr) (n c : Nat) (w : World) (hn : n ≤ maxLen) : Calls Try.prog 13 #[.slice a n c] w fun e w' => e = .returned (.bool (decide (n ≤ 1048576))) ∧ w' = w := by
  unfold maxLen at hn
  by_cases h : n ≤ 1048576
  · have E : Hid (decide (n ≤ 1048576) = true) := by unfold Hid; simpa using h
    go_enter Try.func13, Try.ntmps13
    go_wp2
    go_ret
    exact ⟨rb E.out.symm, rfl⟩
  · have E : Hid (decide (n ≤ 1048576) = false) := by unfold Hid; simpa using h
    go_enter Try.func13, Try.ntmps13
    go_wp2
    go_ret
    exact ⟨rb E.out.symm, rfl⟩

end Go.Proofs.Qxb6601261a
