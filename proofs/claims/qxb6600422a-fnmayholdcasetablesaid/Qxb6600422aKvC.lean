/-
  THE WALKS, part C: zzBytes_FnMayHoldCaseTable and the law's own model, zzMayHoldModel.
-/
import Derived.Test.Qxb6600422aKvB
namespace Go.Proofs.Qxb6600422a
open Go.RowKit

theorem bytes_no {s : ByteArray} {n1 n2 : Nat} (h : 1048576 < s.size + n1 + n2) : bytesB s n1 n2 = false := by unfold bytesB; simp; omega
theorem bytes_yes {s : ByteArray} {n1 n2 : Nat} (h : s.size + n1 + n2 ≤ 1048576) : bytesB s n1 n2 = true := by unfold bytesB; simp; omega

set_option maxHeartbeats 1600000 in
theorem bytes_any (set : Bool) (s : ByteArray) (ver : Int) (hm am : Bool) (a1 : Option Addr) (n1 c1 : Nat) (hn an : Bool) (a2 : Option Addr) (n2 c2 : Nat) (w : World)
    (hs : s.size ≤ maxLen) (h1 : n1 ≤ 9223372036854775807) (h2 : n2 ≤ 9223372036854775807) :
    Calls Try.prog 9 #[.agg #[.bool set, .string s, .int .u64 ver], .agg #[.bool hm, .bool am, .slice a1 n1 c1, .bool hn, .bool an, .slice a2 n2 c2]] w fun e w' => e = .returned (.bool (bytesB s n1 n2)) ∧ Below w.heap.size w w' := by
  unfold maxLen at hs
  rcases (show (1048576 < s.size) ∨ (s.size ≤ 1048576 ∧ 1048576 < n1) ∨ (s.size ≤ 1048576 ∧ n1 ≤ 1048576 ∧ 1048576 < s.size + n1) ∨ (s.size ≤ 1048576 ∧ n1 ≤ 1048576 ∧ s.size + n1 ≤ 1048576 ∧ 1048576 < n2)
      ∨ (s.size ≤ 1048576 ∧ n1 ≤ 1048576 ∧ s.size + n1 ≤ 1048576 ∧ n2 ≤ 1048576 ∧ 1048576 < s.size + n1 + n2) ∨ (s.size ≤ 1048576 ∧ n1 ≤ 1048576 ∧ s.size + n1 ≤ 1048576 ∧ n2 ≤ 1048576 ∧ s.size + n1 + n2 ≤ 1048576) from by omega) with
    h | ⟨g1, h⟩ | ⟨g1, g2, h⟩ | ⟨g1, g2, g3, h⟩ | ⟨g1, g2, g3, g4, h⟩ | ⟨g1, g2, g3, g4, h⟩
  iterate 5
    · have HH : Hid (bytesB s n1 n2 = false) := bytes_no (by omega)
      go_enter Try.func9, Try.ntmps9
      go_wp2_with fail
      go_ret
      exact ⟨ret_bool HH.out.symm, ((Below.refl _ _).alloc (Nat.le_refl _) _).alloc (by simp) _⟩
  · have HH : Hid (bytesB s n1 n2 = true) := bytes_yes (by omega)
    go_enter Try.func9, Try.ntmps9
    go_wp2_with fail
    go_ret
    exact ⟨ret_bool HH.out.symm, ((Below.refl _ _).alloc (Nat.le_refl _) _).alloc (by simp) _⟩

/-- What the model asks of one listed version. -/
def wantB (hn : Bool) (ns : List Int) (v : Int) : Bool := v != 0 && !(hn && hasB ns v)
def modelB (set : Bool) (ver : Int) (hm am : Bool) (ms : List Int) (hn an : Bool) (ns : List Int) : Bool :=
  if set = false then !hm else if (ver == 0) = false then holdsAtB hm am ms hn an ns ver else if (hn && an) = true then false else if (!hm || am) = true then true else ms.any (wantB hn ns)

theorem any_hit {f : Int → Bool} {zs : List Int} {k : Nat} (hk : k < zs.length) (h : f zs[k] = true) : zs.any f = true :=
  List.any_eq_true.2 ⟨zs[k], List.getElem_mem hk, h⟩
theorem any_take_succ {f : Int → Bool} {zs : List Int} {k : Nat} (hk : k < zs.length) (h0 : (zs.take k).any f = false) (h : f zs[k] = false) : (zs.take (k+1)).any f = false := by
  rw [List.take_succ_eq_append_getElem hk, List.any_append, h0]; simp [h]

-- The model's loop: the four tests ahead of it all said no.
set_option maxHeartbeats 1600000 in
theorem model_loop (q : Int → Bool) (s : ByteArray) (a1 : Option Addr) (n1 c1 : Nat) (ms : List Int) (hn an : Bool) (a2 : Option Addr) (n2 c2 : Nat) (ns : List Int) (w : World) (h1 : Holds64 w a1 n1 ms) (h2 : Holds64 w a2 n2 ns) (hx : (hn && an) = false)
    (HQ : Hid (∀ v, q v = (v != 0 && !(hn && hasB ns v)))) :
    Calls Try.prog 16 #[.agg #[.bool true, .string s, .int .u64 0], .agg #[.bool true, .bool false, .slice a1 n1 c1, .bool hn, .bool an, .slice a2 n2 c2]] w fun e w' => e = .returned (.bool (ms.any q)) ∧ Below w.heap.size w w' := by
  have h2' : ∀ o1 o2, Holds64 ((w.alloc o1).alloc o2) a2 n2 ns := fun o1 o2 => (h2.alloc o1).alloc o2
  clear h2
  obtain ⟨hlen, hmax, -, h0 | ⟨b, off, rfl, hc⟩⟩ := h1
  · subst h0
    obtain rfl : ms = [] := by simpa using hlen
    cases hn <;> cases an
    iterate 3
      · go_enter Try.func16, Try.ntmps16
        go_wp2_with fail
        refine wp_loop_rounds 1 ?_
        rw [rounds_succ]
        go_wp2_with fail
        go_ret
        exact ⟨rfl, ((Below.refl _ _).alloc (Nat.le_refl _) _).alloc (by simp) _⟩
    · simp at hx
  · have hcb : ∀ i, i < n1 → b < w.heap.size := fun i hi => cell_block (hc i hi)
    have hcc : ∀ (o1 o2 : Obj) (i : Nat), i < n1 → ((w.alloc o1).alloc o2).cell? ⟨b, off + i, none⟩ = some (.int .u64 (ms.getD i 0)) := by
      intro o1 o2 i hi
      rw [← hc i hi]
      exact (((Below.refl _ _).alloc (Nat.le_refl _) o1).alloc (by simp) o2).cell (p := ⟨b, off + i, none⟩) (hcb i hi)
    clear hc hcb
    have HL : Hid (ms.length = n1) := hlen
    clear hlen
    cases hn <;> cases an
    iterate 3
      · clear hx
        go_enter Try.func16, Try.ntmps16
        go_wp2_with fail
        go_loop [5, 6] (fun i _ => ∃ k : Nat, k ≤ n1 ∧ i = .int .i64 k ∧ (ms.take k).any q = false) (fun i _ => n1 - (intOf i).toNat)
        case atStart => exact ⟨0, Nat.zero_le _, rfl, rfl⟩
        case round =>
          obtain ⟨k, hk, rfl, hno⟩ := hrel
          have HN : Hid ((ms.take k).any q = false) := hno
          clear hno
          by_cases hlt : k < n1
          · have hkz : k < ms.length := by rw [HL.out]; exact hlt
            have hcell : ∀ (o1 o2 : Obj), ((w.alloc o1).alloc o2).cell? ⟨b, off + k, none⟩ = some (.int .u64 ms[k]) := by intro o1 o2; rw [hcc o1 o2 k hlt]; simp [List.getD, hkz]
            clear hcc
            have HX := HQ.out ms[k]
            cases hz0 : (ms[k] != 0) <;> cases hb : hasB ns ms[k]
            all_goals
              rw [hz0, hb] at HX
              first
                | (have HF : Hid (q ms[k] = false) := HX
                   clear HX
                   go_wp2_with (go_at_call 25; refine (listed_any _ _ _ ns _ _ (h2' _ _)).mono ?_; rintro e w' ⟨rfl, rfl⟩)
                   go_round
                   case rel => exact ⟨k + 1, by omega, by go_num, any_take_succ hkz HN.out HF.out⟩
                   case measure => simp [intOf]; omega)
                | (have HF : Hid (q ms[k] = true) := HX
                   clear HX
                   go_wp2_with (go_at_call 25; refine (listed_any _ _ _ ns _ _ (h2' _ _)).mono ?_; rintro e w' ⟨rfl, rfl⟩)
                   go_ret
                   exact ⟨ret_bool (any_hit hkz HF.out).symm, ((Below.refl _ _).alloc (Nat.le_refl _) _).alloc (by simp) _⟩)
          · clear hcc
            go_wp2_with fail
            go_ret
            exact ⟨ret_bool (by have := HN.out; rw [List.take_of_length_le (by rw [HL.out]; omega)] at this; rw [this]), ((Below.refl _ _).alloc (Nat.le_refl _) _).alloc (by simp) _⟩
    · simp at hx

set_option maxHeartbeats 1600000 in
theorem model_any (set : Bool) (s : ByteArray) (ver : Int) (hm am : Bool) (a1 : Option Addr) (n1 c1 : Nat) (ms : List Int) (hn an : Bool) (a2 : Option Addr) (n2 c2 : Nat) (ns : List Int) (w : World) (h1 : Holds64 w a1 n1 ms) (h2 : Holds64 w a2 n2 ns) :
    Calls Try.prog 16 #[.agg #[.bool set, .string s, .int .u64 ver], .agg #[.bool hm, .bool am, .slice a1 n1 c1, .bool hn, .bool an, .slice a2 n2 c2]] w fun e w' => e = .returned (.bool (modelB set ver hm am ms hn an ns)) ∧ Below w.heap.size w w' := by
  cases set
  · have HH : Hid (modelB false ver hm am ms hn an ns = !hm) := rfl
    go_enter Try.func16, Try.ntmps16
    go_wp2_with fail
    go_ret
    exact ⟨ret_bool HH.out.symm, ((Below.refl _ _).alloc (Nat.le_refl _) _).alloc (by simp) _⟩
  cases hv : (ver == 0)
  · have HH : Hid (modelB true ver hm am ms hn an ns = holdsAtB hm am ms hn an ns ver) := by unfold Hid modelB; rw [if_neg (by decide), if_pos hv]
    have hv' : (ver != 0) = true := by simp [bne, hv]
    clear hv
    go_enter Try.func16, Try.ntmps16
    go_wp2_with (go_at_call 28; refine (holdsAt_any hm am a1 n1 c1 ms hn an a2 n2 c2 ns ver _ ((h1.alloc _).alloc _) ((h2.alloc _).alloc _)).mono ?_; rintro e w' ⟨rfl, hb⟩)
    go_ret
    exact ⟨ret_bool HH.out.symm, (((Below.refl _ _).alloc (Nat.le_refl _) _).alloc (by simp) _).trans (hb.mono (by simp; omega))⟩
  obtain rfl : ver = 0 := by simpa using hv
  clear hv
  have HM : modelB true 0 hm am ms hn an ns = (if (hn && an) = true then false else if (!hm || am) = true then true else ms.any (wantB hn ns)) := rfl
  cases hx : (hn && an)
  · cases hy : (!hm || am)
    · rw [hx, hy] at HM
      obtain ⟨rfl, rfl⟩ : hm = true ∧ am = false := by cases hm <;> cases am <;> simp_all
      have HM' : modelB true 0 true false ms hn an ns = ms.any (wantB hn ns) := HM
      rw [HM']
      exact model_loop _ s a1 n1 c1 ms hn an a2 n2 c2 ns w h1 h2 hx (fun _ => rfl)
    · rw [hx, hy] at HM
      have HH : Hid (modelB true 0 hm am ms hn an ns = true) := HM
      clear HM
      cases hm <;> cases am <;> cases hn <;> cases an <;> first | (exfalso; revert hx; decide) | (exfalso; revert hy; decide) | skip
      all_goals
        clear hx hy
        go_enter Try.func16, Try.ntmps16
        go_wp2_with fail
        go_ret
        exact ⟨ret_bool HH.out.symm, ((Below.refl _ _).alloc (Nat.le_refl _) _).alloc (by simp) _⟩
  · rw [hx] at HM
    have HH : Hid (modelB true 0 hm am ms hn an ns = false) := HM
    clear HM
    obtain ⟨rfl, rfl⟩ : hn = true ∧ an = true := by simpa using hx
    clear hx
    go_enter Try.func16, Try.ntmps16
    go_wp2_with fail
    go_ret
    exact ⟨ret_bool HH.out.symm, ((Below.refl _ _).alloc (Nat.le_refl _) _).alloc (by simp) _⟩

end Go.Proofs.Qxb6600422a
