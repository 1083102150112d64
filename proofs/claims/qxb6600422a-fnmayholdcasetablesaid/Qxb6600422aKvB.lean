/-
  THE WALKS, part B: the law's own helpers: zzNames, zzHoldsAt, zzListsTop, zzCondTooBig, zzCondBytes, zzBytes_.. Each only reads; a struct parameter is boxed in a new block.
-/
import Derived.Test.Qxb6600422aKvA
import Derived.Deep.Light
namespace Go.Proofs.Qxb6600422a
open Go.RowKit

theorem cell_block {w : World} {a : Addr} {v : Value} (h : w.cell? a = some v) : a.block < w.heap.size := by
  unfold World.cell? at h
  by_cases hb : a.block < w.heap.size
  · exact hb
  · simp [Array.getElem?_eq_none (Nat.le_of_not_lt hb)] at h

theorem Holds64.below {w w' : World} {a : Option Addr} {n : Nat} {zs : List Int} (h : Holds64 w a n zs) (hb : Below w.heap.size w w') : Holds64 w' a n zs := by
  obtain ⟨h1, h2, h3, h4⟩ := h
  refine ⟨h1, h2, h3, ?_⟩
  rcases h4 with h0 | ⟨b, off, rfl, hc⟩
  · exact .inl h0
  refine .inr ⟨b, off, rfl, fun i hi => ?_⟩
  rw [hb.cell (p := ⟨b, off + i, none⟩) (cell_block (hc i hi)), hc i hi]

theorem Holds64.alloc {w : World} {a : Option Addr} {n : Nat} {zs : List Int} (h : Holds64 w a n zs) (o : Obj) : Holds64 (w.alloc o) a n zs :=
  h.below ((Below.refl _ _).alloc (Nat.le_refl _) o)

def namesB (star : Bool) (vs : List Int) (v : Int) : Bool := if (v == 0) = true then false else (star || hasB vs v)

theorem names_zero {star : Bool} {vs : List Int} {v : Int} (h : (v == 0) = true) : namesB star vs v = false := by unfold namesB; rw [if_pos h]
theorem names_more {star : Bool} {vs : List Int} {v : Int} (h : (v == 0) = false) : namesB star vs v = (star || hasB vs v) := by unfold namesB; rw [if_neg (by rw [h]; decide)]

set_option maxHeartbeats 400000 in
theorem names_any (star : Bool) (a : Option Addr) (n c : Nat) (zs : List Int) (v : Int) (w : World) (hz : Holds64 w a n zs) :
    Calls Try.prog 33 #[.bool star, .slice a n c, .int .u64 v] w fun e w' => e = .returned (.bool (namesB star zs v)) ∧ w' = w := by
  cases hv : (v == 0)
  · cases star
    · have HH : Hid (namesB false zs v = (false || hasB zs v)) := names_more hv
      go_enter Try.func33, Try.ntmps33
      go_wp2_with (go_at_call 25; refine (listed_any a n c zs v _ hz).mono ?_; rintro e w' ⟨rfl, rfl⟩)
      go_ret
      exact ⟨ret_bool (by rw [HH.out]; rfl), rfl⟩
    · have HH : Hid (namesB true zs v = (true || hasB zs v)) := names_more hv
      go_enter Try.func33, Try.ntmps33
      go_wp2_with fail
      go_ret
      exact ⟨ret_bool (by rw [HH.out]; rfl), rfl⟩
  · have HH : Hid (namesB star zs v = false) := names_zero hv
    go_enter Try.func33, Try.ntmps33
    go_wp2_with fail
    go_ret
    exact ⟨ret_bool (by rw [HH.out]), rfl⟩

def holdsAtB (hm am : Bool) (ms : List Int) (hn an : Bool) (ns : List Int) (v : Int) : Bool :=
  (!hm || namesB am ms v) && (!hn || !namesB an ns v)

set_option maxHeartbeats 800000 in
theorem holdsAt_any (hm am : Bool) (a1 : Option Addr) (n1 c1 : Nat) (ms : List Int) (hn an : Bool) (a2 : Option Addr) (n2 c2 : Nat) (ns : List Int) (v : Int) (w : World) (h1 : Holds64 w a1 n1 ms) (h2 : Holds64 w a2 n2 ns) :
    Calls Try.prog 28 #[.agg #[.bool hm, .bool am, .slice a1 n1 c1, .bool hn, .bool an, .slice a2 n2 c2], .int .u64 v] w fun e w' => e = .returned (.bool (holdsAtB hm am ms hn an ns v)) ∧ Below w.heap.size w w' := by
  have HH : Hid (holdsAtB hm am ms hn an ns v = ((!hm || namesB am ms v) && (!hn || !namesB an ns v))) := rfl
  cases hm <;> cases hn
  · go_enter Try.func28, Try.ntmps28
    go_wp2_with fail
    go_ret
    exact ⟨ret_bool (by rw [HH.out]; rfl), (Below.refl _ _).alloc (Nat.le_refl _) _⟩
  · go_enter Try.func28, Try.ntmps28
    go_wp2_with (go_at_call 33; refine (names_any an a2 n2 c2 ns v _ (h2.alloc _)).mono ?_; rintro e w' ⟨rfl, rfl⟩)
    all_goals
      go_ret
      exact ⟨ret_bool (by rw [HH.out]; go_light; clear HH; simp_all), (Below.refl _ _).alloc (Nat.le_refl _) _⟩
  · go_enter Try.func28, Try.ntmps28
    go_wp2_with (go_at_call 33; refine (names_any am a1 n1 c1 ms v _ (h1.alloc _)).mono ?_; rintro e w' ⟨rfl, rfl⟩)
    all_goals
      go_ret
      exact ⟨ret_bool (by rw [HH.out]; go_light; clear HH; simp_all), (Below.refl _ _).alloc (Nat.le_refl _) _⟩
  · go_enter Try.func28, Try.ntmps28
    go_wp2_with (go_at_call 33; refine (names_any _ _ _ _ _ _ _ (by first | exact h1.alloc _ | exact h2.alloc _)).mono ?_; rintro e w' ⟨rfl, rfl⟩)
    all_goals
      go_ret
      exact ⟨ret_bool (by rw [HH.out]; go_light; clear HH; simp_all), (Below.refl _ _).alloc (Nat.le_refl _) _⟩

def topB (zs : List Int) : Bool := hasB zs 18446744073709551615
def listsTopB (hm : Bool) (ms : List Int) (hn : Bool) (ns : List Int) : Bool := (hm && topB ms) || (hn && topB ns)

theorem listed_top (a : Option Addr) (n c : Nat) (zs : List Int) (w : World) (hz : Holds64 w a n zs) :
    Calls Try.prog 25 #[.slice a n c, .int .u64 18446744073709551615] w fun e w' => e = .returned (.bool (topB zs)) ∧ w' = w :=
  listed_any a n c zs 18446744073709551615 w hz

set_option maxHeartbeats 800000 in
theorem listsTop_any (hm am : Bool) (a1 : Option Addr) (n1 c1 : Nat) (ms : List Int) (hn an : Bool) (a2 : Option Addr) (n2 c2 : Nat) (ns : List Int) (w : World) (h1 : Holds64 w a1 n1 ms) (h2 : Holds64 w a2 n2 ns) :
    Calls Try.prog 12 #[.agg #[.bool hm, .bool am, .slice a1 n1 c1, .bool hn, .bool an, .slice a2 n2 c2]] w fun e w' => e = .returned (.bool (listsTopB hm ms hn ns)) ∧ Below w.heap.size w w' := by
  have HH : Hid (listsTopB hm ms hn ns = ((hm && topB ms) || (hn && topB ns))) := rfl
  cases hm <;> cases hn <;> cases hA : topB ms <;> cases hB : topB ns
  all_goals
    go_enter Try.func12, Try.ntmps12
    go_wp2_with (go_at_call 25; refine (listed_top _ _ _ _ _ (by first | exact h1.alloc _ | exact h2.alloc _)).mono ?_; rintro e w' ⟨rfl, rfl⟩)
    go_ret
    exact ⟨ret_bool (by rw [HH.out]; go_light; clear HH; simp_all), (Below.refl _ _).alloc (Nat.le_refl _) _⟩

def tooBigB (n1 n2 : Nat) : Bool := decide ((131072 : Int) < n1) || decide ((131072 : Int) < n2)

set_option maxHeartbeats 800000 in
theorem tooBig_any (hm am : Bool) (a1 : Option Addr) (n1 c1 : Nat) (hn an : Bool) (a2 : Option Addr) (n2 c2 : Nat) (w : World) :
    Calls Try.prog 10 #[.agg #[.bool hm, .bool am, .slice a1 n1 c1, .bool hn, .bool an, .slice a2 n2 c2]] w fun e w' => e = .returned (.bool (tooBigB n1 n2)) ∧ Below w.heap.size w w' := by
  have HH : Hid (tooBigB n1 n2 = (decide ((131072 : Int) < n1) || decide ((131072 : Int) < n2))) := rfl
  by_cases hA : (131072 : Int) < n1 <;> by_cases hB : (131072 : Int) < n2
  all_goals
    go_enter Try.func10, Try.ntmps10
    go_wp2_with fail
    go_ret
    exact ⟨ret_bool (by rw [HH.out]; go_light; clear HH; simp; omega), (Below.refl _ _).alloc (Nat.le_refl _) _⟩

set_option maxHeartbeats 800000 in
theorem condBytes_any (hm am : Bool) (a1 : Option Addr) (n1 c1 : Nat) (hn an : Bool) (a2 : Option Addr) (n2 c2 : Nat) (w : World) (h1 : n1 ≤ 131072) (h2 : n2 ≤ 131072) :
    Calls Try.prog 11 #[.agg #[.bool hm, .bool am, .slice a1 n1 c1, .bool hn, .bool an, .slice a2 n2 c2]] w fun e w' => e = .returned (.int .i64 (8 * (n1 : Int) + 8 * (n2 : Int))) ∧ Below w.heap.size w w' := by
  go_enter Try.func11, Try.ntmps11
  go_wp2_with fail
  go_ret
  exact ⟨rfl, (Below.refl _ _).alloc (Nat.le_refl _) _⟩

def bytesB (s : ByteArray) (n1 n2 : Nat) : Bool := decide (s.size + n1 + n2 ≤ 1048576)

end Go.Proofs.Qxb6600422a
