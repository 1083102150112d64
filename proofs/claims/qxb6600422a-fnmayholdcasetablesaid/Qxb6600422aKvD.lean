/-
  THE WALKS, part D: (*Match).Matches, Condition.Holds, the closure of mayHold, slices.IndexFunc, slices.ContainsFunc at that closure.
-/
import Derived.Test.Qxb6600422aKvB
namespace Go.Proofs.Qxb6600422a
open Go.RowKit

set_option maxHeartbeats 800000 in
theorem matches_any (b : Nat) (any : Bool) (a : Option Addr) (n c : Nat) (zs : List Int) (v : Int) (w : World) (h0 : w.cell? ⟨b, 0, none⟩ = some (.bool any)) (h1 : w.cell? ⟨b, 1, none⟩ = some (.slice a n c)) (hz : Holds64 w a n zs) :
    Calls Try.prog 35 #[.pointer (some ⟨b, 0, none⟩), .int .u64 v] w fun e w' => e = .returned (.bool (namesB any zs v)) ∧ w' = w := by
  cases hv : (v == 0)
  · have hv' : (v != 0) = true := by simp [bne, hv]
    cases any
    · have HH : Hid (namesB false zs v = (false || hasB zs v)) := names_more hv
      clear hv
      go_enter Try.func35, Try.ntmps35
      go_wp2_with (go_at_call 39; refine (contains_any a n c zs v _ hz).mono ?_; rintro e w' ⟨rfl, rfl⟩)
      go_ret
      exact ⟨ret_bool (by rw [HH.out]; rfl), rfl⟩
    · have HH : Hid (namesB true zs v = (true || hasB zs v)) := names_more hv
      clear hv
      go_enter Try.func35, Try.ntmps35
      go_wp2_with fail
      go_ret
      exact ⟨ret_bool (by rw [HH.out]; rfl), rfl⟩
  · have HH : Hid (namesB any zs v = false) := names_zero hv
    have hv' : (v != 0) = false := by simp [bne, hv]
    clear hv
    go_enter Try.func35, Try.ntmps35
    go_wp2_with fail
    go_ret
    exact ⟨ret_bool (by rw [HH.out]), rfl⟩

/-- nil has no room. -/
def Shaped (a : Option Addr) (n c : Nat) : Prop := a = none → n = 0 ∧ c = 0

/-- A match behind a pointer: none, or a block with its star and its list. -/
def MatchAt (w : World) (h any : Bool) (zs : List Int) (p : Option Addr) : Prop :=
  (h = false ∧ p = none) ∨ (h = true ∧ ∃ b a n c, p = some ⟨b, 0, none⟩ ∧ w.cell? ⟨b, 0, none⟩ = some (.bool any) ∧ w.cell? ⟨b, 1, none⟩ = some (.slice a n c) ∧ Holds64 w a n zs ∧ Shaped a n c)

theorem MatchAt.below {w w' : World} {h any : Bool} {zs : List Int} {p : Option Addr} (hm : MatchAt w h any zs p) (hb : Below w.heap.size w w') : MatchAt w' h any zs p := by
  rcases hm with hm | ⟨h1, b, a, n, c, hp, h2, h3, h4, h5⟩
  · exact .inl hm
  · exact .inr ⟨h1, b, a, n, c, hp, by rw [hb.cell (p := ⟨b, 0, none⟩) (cell_block h2), h2], by rw [hb.cell (p := ⟨b, 1, none⟩) (cell_block h3), h3], h4.below hb, h5⟩

theorem MatchAt.alloc {w : World} {h any : Bool} {zs : List Int} {p : Option Addr} (hm : MatchAt w h any zs p) (o : Obj) : MatchAt (w.alloc o) h any zs p :=
  hm.below ((Below.refl _ _).alloc (Nat.le_refl _) o)

theorem cell_alloc {w : World} {b off : Nat} {v : Value} (h : w.cell? ⟨b, off, none⟩ = some v) (o : Obj) : (w.alloc o).cell? ⟨b, off, none⟩ = some v := by
  rw [((Below.refl _ _).alloc (Nat.le_refl _) o).cell (p := ⟨b, off, none⟩) (cell_block h), h]

theorem matches_at (any : Bool) (zs : List Int) (p : Option Addr) (v : Int) (w : World) (hm : MatchAt w true any zs p) :
    Calls Try.prog 35 #[.pointer p, .int .u64 v] w fun e w' => e = .returned (.bool (namesB any zs v)) ∧ w' = w := by
  rcases hm with ⟨h, -⟩ | ⟨-, b, a, n, c, rfl, x, y, z, -⟩
  · cases h
  · exact matches_any b any a n c zs v w x y z

set_option maxHeartbeats 800000 in
theorem holds_any (hm am : Bool) (ms : List Int) (p1 : Option Addr) (hn an : Bool) (ns : List Int) (p2 : Option Addr) (v : Int) (w : World) (h1 : MatchAt w hm am ms p1) (h2 : MatchAt w hn an ns p2) :
    Calls Try.prog 30 #[.agg #[.pointer p1, .pointer p2], .int .u64 v] w fun e w' => e = .returned (.bool (holdsAtB hm am ms hn an ns v)) ∧ Below w.heap.size w w' := by
  have HH : Hid (holdsAtB hm am ms hn an ns v = ((!hm || namesB am ms v) && (!hn || !namesB an ns v))) := rfl
  have k1 : ∀ o, MatchAt (w.alloc o) hm am ms p1 := fun o => h1.alloc o
  have k2 : ∀ o, MatchAt (w.alloc o) hn an ns p2 := fun o => h2.alloc o
  cases hA : namesB am ms v <;> cases hB : namesB an ns v
  all_goals
    rcases h1 with ⟨rfl, rfl⟩ | ⟨rfl, b1, a1, n1, c1, rfl, x1, y1, z1, -⟩ <;> rcases h2 with ⟨rfl, rfl⟩ | ⟨rfl, b2, a2, n2, c2, rfl, x2, y2, z2, -⟩
    all_goals
      rw [hA, hB] at HH
      try clear x1 y1 z1
      try clear x2 y2 z2
      go_enter Try.func30, Try.ntmps30
      go_wp2_with (go_at_call 35; refine (matches_at _ _ _ _ _ (by first | exact k1 _ | exact k2 _)).mono ?_; rintro e w' ⟨rfl, rfl⟩)
      go_ret
      exact ⟨ret_bool (by rw [HH.out]; rfl), (Below.refl _ _).alloc (Nat.le_refl _) _⟩

/-- What the closure asks of one version. -/
def askB (hm am : Bool) (ms : List Int) (hn an : Bool) (ns : List Int) (v : Int) : Bool := v != 0 && holdsAtB hm am ms hn an ns v

set_option maxHeartbeats 800000 in
theorem closure_any (B : Nat) (hm am : Bool) (ms : List Int) (p1 : Option Addr) (hn an : Bool) (ns : List Int) (p2 : Option Addr) (v : Int) (w : World)
    (q0 : w.cell? ⟨B, 0, none⟩ = some (.pointer p1)) (q1 : w.cell? ⟨B, 1, none⟩ = some (.pointer p2)) (h1 : MatchAt w hm am ms p1) (h2 : MatchAt w hn an ns p2) :
    Calls Try.prog 32 #[.int .u64 v, .pointer (some ⟨B, 0, none⟩)] w fun e w' => e = .returned (.bool (askB hm am ms hn an ns v)) ∧ Below w.heap.size w w' := by
  have HH : Hid (askB hm am ms hn an ns v = (v != 0 && holdsAtB hm am ms hn an ns v)) := rfl
  cases hv : (v != 0)
  · rw [hv] at HH
    go_enter Try.func32, Try.ntmps32
    go_wp2_with fail
    go_ret
    exact ⟨ret_bool (by rw [HH.out]; rfl), Below.refl _ _⟩
  · rw [hv] at HH
    go_enter Try.func32, Try.ntmps32
    go_wp2_with (go_at_call 30; refine (holds_any hm am ms p1 hn an ns p2 v _ h1 h2).mono ?_; rintro e w' ⟨rfl, hb⟩)
    go_ret
    exact ⟨ret_bool (by rw [HH.out]; rfl), hb⟩

theorem any_hit' {f : Int → Bool} {zs : List Int} {k : Nat} (hk : k < zs.length) (h : f zs[k] = true) : zs.any f = true :=
  List.any_eq_true.2 ⟨zs[k], List.getElem_mem hk, h⟩
theorem any_take_succ' {f : Int → Bool} {zs : List Int} {k : Nat} (hk : k < zs.length) (h0 : (zs.take k).any f = false) (h : f zs[k] = false) : (zs.take (k+1)).any f = false := by
  rw [List.take_succ_eq_append_getElem hk, List.any_append, h0]; simp [h]

set_option maxHeartbeats 800000 in
theorem indexFunc_any (a : Option Addr) (n c : Nat) (zs : List Int) (q : Int → Bool) (B : Nat) (w : World) (hz : Holds64 w a n zs)
    (hq : Hid (∀ w', Below w.heap.size w w' → ∀ v, Calls Try.prog 32 #[.int .u64 v, .pointer (some ⟨B, 0, none⟩)] w' fun e w'' => e = .returned (.bool (q v)) ∧ Below w'.heap.size w' w'')) :
    Calls Try.prog 36 #[.slice a n c, .func (.func 32) #[] #[.pointer (some ⟨B, 0, none⟩)]] w fun e w' => (∃ r : Int, e = .returned (.int .i64 r) ∧ decide (0 ≤ r) = zs.any q) ∧ Below w.heap.size w w' := by
  obtain ⟨hlen, hmax, -, h0 | ⟨b, off, rfl, hc⟩⟩ := hz
  · subst h0
    obtain rfl : zs = [] := by simpa using hlen
    go_enter Try.func36, Try.ntmps36
    go_wp2_with fail
    refine wp_loop_rounds 1 ?_
    rw [rounds_succ]
    go_wp2_with fail
    go_ret
    exact ⟨⟨-1, rfl, rfl⟩, Below.refl _ _⟩
  · go_enter Try.func36, Try.ntmps36
    go_wp2_with fail
    go_loopw [5, 8] (fun _ i wr => ∃ k : Nat, k ≤ n ∧ i = .int .i64 k ∧ (zs.take k).any q = false ∧ Below w.heap.size w wr) (fun _ i _ => n - (intOf i).toNat)
    case atStart => exact ⟨0, Nat.zero_le _, rfl, rfl, Below.refl _ _⟩
    case round =>
      obtain ⟨k, hk, rfl, hno, hbel⟩ := hrel
      have HN : Hid ((zs.take k).any q = false) := hno
      clear hno
      have HL : Hid (zs.length = n) := hlen
      by_cases hlt : k < n
      · have hkz : k < zs.length := by omega
        have hcell : wr.cell? ⟨b, off + k, none⟩ = some (.int .u64 zs[k]) := by rw [hbel.cell (p := ⟨b, off + k, none⟩) (cell_block (hc k hlt)), hc k hlt]; simp [List.getD, hkz]
        clear hlen hc
        go_wp2_with (go_at_call 32; refine (hq.out wr hbel zs[k]).mono ?_; rintro e w' ⟨rfl, hb⟩)
        · have h : q zs[k] = true := by assumption
          go_ret
          exact ⟨⟨k, rfl, by rw [any_hit' hkz h]; simp⟩, hbel.trans (hb.mono hbel.size)⟩
        · have h : q zs[k] = false := by assumption
          go_roundw
          case rel => exact ⟨k + 1, by omega, by go_num, any_take_succ' hkz HN.out h, hbel.trans (hb.mono hbel.size)⟩
          case measure => simp [intOf]; omega
      · clear hlen hc
        go_wp2_with fail
        go_ret
        exact ⟨⟨-1, rfl, (by have := HN.out; rw [List.take_of_length_le (by rw [HL.out]; omega)] at this; rw [this]; rfl)⟩, hbel⟩

set_option maxHeartbeats 800000 in
theorem containsFunc_any (a : Option Addr) (n c : Nat) (zs : List Int) (q : Int → Bool) (B : Nat) (w : World) (hz : Holds64 w a n zs)
    (hq : Hid (∀ w', Below w.heap.size w w' → ∀ v, Calls Try.prog 32 #[.int .u64 v, .pointer (some ⟨B, 0, none⟩)] w' fun e w'' => e = .returned (.bool (q v)) ∧ Below w'.heap.size w' w'')) :
    Calls Try.prog 31 #[.slice a n c, .func (.func 32) #[] #[.pointer (some ⟨B, 0, none⟩)]] w fun e w' => e = .returned (.bool (zs.any q)) ∧ Below w.heap.size w w' := by
  go_enter Try.func31, Try.ntmps31
  go_wp2_with (go_at_call 36; refine (indexFunc_any a n c zs q B _ hz hq).mono ?_; rintro e w' ⟨⟨r, rfl, hr⟩, hb⟩)
  go_ret
  exact ⟨by first | rfl | assumption, hb⟩

end Go.Proofs.Qxb6600422a
