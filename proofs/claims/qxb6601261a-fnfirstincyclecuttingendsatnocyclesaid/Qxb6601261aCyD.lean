/-
  THE WALK of FnFirstInCycleCuttingEndsAtNoCycle.
-/
import Derived.Test.Qxb6601261aCyC
import Derived.Test.Qxb6601261aCyQ
namespace Go.Proofs.Qxb6601261a
open Go.RowKit

/-- Nought where there is a parent. -/
def ng (ps : List Int) : Nat → Int := fun i => if 0 ≤ ps.getD i (-1) then 0 else 1
theorem getD_set (ps : List Int) (r i : Nat) : (ps.set r (-1)).getD i (-1) = if i = r then -1 else ps.getD i (-1) := by
  by_cases e : i = r
  · subst e
    rw [if_pos rfl]
    by_cases h : i < ps.length
    · simp [List.getD, h]
    · simp [List.getD, h]
  · rw [if_neg e]
    simp only [List.getD, List.getElem?_set]
    rw [if_neg (by omega)]
theorem ng_set (ps : List Int) (r n : Nat) : cnt (ng (ps.set r (-1))) n = cnt (upd (ng ps) r 1) n := by
  apply cnt_congr
  intro i _
  unfold ng upd
  rw [getD_set]
  by_cases e : i = r
  · simp [e]
  · simp [e]
theorem Fits.cut {ps : List Int} (h : Fits ps) (r : Nat) : Fits (ps.set r (-1)) := by
  intro i hi
  rw [List.length_set] at hi ⊢
  rw [getD_set]
  split
  · omega
  · exact h i hi

/-- What the law uses of an answer that is no -1. -/
theorem spec_cycle {ps : List Int} {r : Int} (hf : Fits ps) (h : FirstSpec ps r) (hr : r ≠ -1) : ∃ (r0 L : Nat), r = r0 ∧ r0 < ps.length ∧ 1 ≤ L ∧ L ≤ ps.length ∧ it ps L r0 = r0 ∧ ∀ t, 0 ≤ it ps t r0 := by
  rcases h with ⟨h, -⟩ | ⟨s, a, j, h1, -, h3, h4, h5⟩
  · exact absurd h hr
  · have hp := h3.pos a
    have hl := it_lt hf (show (s : Int) < ps.length by omega) a
    have haj := h3.1
    have hper := h3.period (n := a) (Nat.le_refl _)
    obtain ⟨r0, hr0⟩ : ∃ r0 : Nat, it ps a s = r0 := ⟨(it ps a s).toNat, by omega⟩
    refine ⟨r0, j - a, by rw [h5, hr0], by omega, by omega, by omega, by rw [← hr0]; exact hper, fun t => ?_⟩
    rw [← hr0, ← it_add]
    exact h3.pos (t + a)

theorem step_at {ps : List Int} {s : Int} {t x : Nat} (h : it ps t s = x) : it ps (t + 1) s = ps.getD x (-1) := by
  show nx ps (it ps t s) = _
  rw [h, nx_pos (by omega)]
  simp

set_option maxRecDepth 100000 in
set_option maxHeartbeats 3200000 in
theorem cut_walk (a0 : Option Addr) (n c0 : Nat) (ps0 : List Int) (w : World) (hz : HoldsI w a0 n ps0) (hsh : a0 = none → n = 0 ∧ c0 = 0) (hn63 : n ≤ maxLen) :
    Calls Try.prog 6 #[.slice a0 n c0] w fun e w' => e = .returned (.bool true) ∧ Below w.heap.size w w' := by
  by_cases hbig : n ≤ 1048576
  case neg =>
    have hd : decide (n ≤ 1048576) = false := by simpa using hbig
    clear hbig
    go_enter Try.func6, Try.ntmps6
    go_wp2_with (go_at_call 13; refine (cyBytes13 a0 n c0 _ hn63).mono ?_; rintro e w' ⟨rfl, hw'⟩; rw [hw']; clear hw')
    go_ret
    exact ⟨rfl, Below.refl _ _⟩
  have hd : decide (n ≤ 1048576) = true := by simpa using hbig
  by_cases hn : n ≤ 4096
  case neg =>
    go_enter Try.func6, Try.ntmps6
    go_wp2_with (go_at_call 13; refine (cyBytes13 a0 n c0 _ hn63).mono ?_; rintro e w' ⟨rfl, hw'⟩; rw [hw']; clear hw')
    go_ret
    exact ⟨rfl, Below.refl _ _⟩
  have d1 : decide ((4096 : Int) < (n : Int)) = false := by rw [decide_eq_false_iff_not]; omega
  have HZ : Hid (HoldsI w a0 n ps0) := hz
  have HL : Hid (ps0.length = n) := hz.1
  clear hz
  go_enter Try.func6, Try.ntmps6
  go_wp2_with (go_at_call 13; refine (cyBytes13 a0 n c0 _ hn63).mono ?_; rintro e w' ⟨rfl, hw'⟩; rw [hw']; clear hw')
  go_loop [4] (fun i => ∃ k : Nat, k ≤ n ∧ i = .int .i64 k ∧ ∀ j, j < k → ps0.getD j (-1) < (n : Int)) (fun i => n - (intOf i).toNat)
  case atStart => exact ⟨0, Nat.zero_le _, rfl, fun j h => by omega⟩
  case round =>
    obtain ⟨k, hk, rfl, hall⟩ := hrel
    have HA : Hid (∀ j, j < k → ps0.getD j (-1) < (n : Int)) := hall
    clear hall
    by_cases hlt : k < n
    · obtain ⟨b, off, hab, hcc⟩ := HZ.out.place hlt
      subst hab
      have hcell := hcc k hlt
      obtain ⟨y, hy⟩ : ∃ y, y = ps0.getD k (-1) := ⟨_, rfl⟩
      rw [← hy] at hcell
      have HY : Hid (y = ps0.getD k (-1)) := hy
      clear hy hcc
      by_cases hyn : (n : Int) ≤ y
      · go_wp2_with fail
        go_ret
        exact ⟨rfl, Below.refl _ _⟩
      · go_wp2_with fail
        go_round
        case rel =>
          refine ⟨k + 1, by omega, by go_num, fun j hj => ?_⟩
          by_cases e : j = k
          · subst e; rw [← HY.out]; omega
          · exact HA.out j (by omega)
        case measure => simp [intOf]; omega
    · have HF : Hid (Fits ps0) := by
        intro i hi
        rw [HL.out] at hi ⊢
        exact HA.out i (by omega)
      clear HA
      go_wp2_with fail
      refine (clone_any a0 n c0 ps0 _ HZ.out hsh hbig).mono ?_
      rintro e w1 ⟨he, hb1⟩
      rcases he with ⟨rfl, h0⟩ | ⟨rfl, hrow⟩
      · -- nil: nothing to cut
        have hp0 : ps0 = [] := by have := HL.out; rw [h0] at this; simpa using this
        subst hp0
        subst h0
        go_wp2_with fail
        refine wp_loop_rounds 1 ?_
        rw [rounds_succ]
        go_wp2_with fail
        refine (zzFirst_any none 0 0 [] _ ⟨rfl, .inl rfl⟩ (fun i hi => absurd hi (by simp)) (by omega)).mono ?_
        rintro e w2 ⟨⟨r, rfl, hspec⟩, hb2⟩
        have hr : r = -1 := by
          rcases hspec with ⟨h, -⟩ | ⟨s, a, j, h1, -⟩
          · exact h
          · simp at h1
        subst hr
        go_wp2_with fail
        go_ret
        exact ⟨rfl, hb1.trans (hb2.mono hb1.size)⟩
      · have HC0 : Hid (cnt (ng ps0) n + 0 ≤ n) := by have := cnt_le (ng ps0) n; unfold Hid; omega
        clear HZ
        go_wp2_with fail
        go_loopw [6] (fun i wr => ∃ (t : Nat) (ps : List Int), i = .int .i64 t ∧ ps.length = n ∧ Fits ps ∧ RowF wr w.heap.size 3 n (fun i => .int .i64 (ps.getD i (-1))) ∧ cnt (ng ps) n + t ≤ n ∧ Below w.heap.size w wr) (fun i _ => n + 1 - (intOf i).toNat)
        case atStart => exact ⟨0, ps0, rfl, HL.out, HF.out, hrow, HC0.out, hb1⟩
        case round =>
          obtain ⟨t, ps, rfl, hpl, hfit, hR, hcnt, hB⟩ := hrel
          clear hrow hb1 HC0 HL HF
          have HL : Hid (ps.length = n) := hpl
          have HF : Hid (Fits ps) := hfit
          have HC : Hid (cnt (ng ps) n + t ≤ n) := hcnt
          have htn : t ≤ n := by omega
          clear hpl hfit hcnt
          go_wp2_with fail
          refine (zzFirst_any _ n n ps _ (hR.holds HL.out) HF.out (by omega)).mono ?_
          rintro e w2 ⟨⟨r, rfl, hspec⟩, hb2⟩
          have hR2 := hR.below hb2 hR.lt
          have hB2 := hB.trans (hb2.mono hB.size)
          clear hR hB hb2
          by_cases hr : r = -1
          · subst hr
            clear hspec
            go_wp2_with fail
            go_ret
            exact ⟨rfl, hB2⟩
          obtain ⟨r0, L, rfl, hr0, hL1, hL2, hper, hpos⟩ := spec_cycle HF.out hspec hr
          have g1 : ((r0 : Int) == -1) = false := by rw [beq_eq_false_iff_ne]; omega
          have hr0n : r0 < n := by rw [← HL.out]; exact hr0
          have HP : Hid (1 ≤ L ∧ L ≤ n ∧ it ps L r0 = r0 ∧ ∀ t, 0 ≤ it ps t r0 ∧ it ps t r0 < n) :=
            ⟨hL1, by rw [← HL.out]; exact hL2, hper, fun t => ⟨hpos t, by rw [← HL.out]; exact it_lt HF.out (by omega) t⟩⟩
          have e1 : w2.cell? ⟨w.heap.size, r0, none⟩ = some (.int .i64 (ps.getD r0 (-1))) := hR2.cell hr0n
          have e2 : w2.frozen? ⟨w.heap.size, r0, none⟩ = false := hR2.free
          have HN1 : Hid (it ps 1 r0 = ps.getD r0 (-1)) := step_at (t := 0) rfl
          rw [← HN1.out] at e1
          clear hspec hr hr0 hL1 hL2 hper hpos
          go_wp2_with fail
          go_loop [8, 9, 10] (fun bk cc i => ∃ b : Nat, b ≤ n ∧ i = .int .i64 b ∧ bk = .bool false ∧ cc = .int .i64 (it ps (b + 1) r0) ∧ ∀ x, 1 ≤ x → x ≤ b → it ps x r0 ≠ r0) (fun _ _ i => n - (intOf i).toNat)
          case atStart => exact ⟨0, Nat.zero_le _, rfl, rfl, rfl, fun x h1 h2 => by omega⟩
          case round =>
            obtain ⟨b, hb, rfl, rfl, rfl, hne⟩ := hrel
            have HNE : Hid (∀ x, 1 ≤ x → x ≤ b → it ps x r0 ≠ r0) := hne
            clear hne
            by_cases hbn : b < n
            case neg =>
              exfalso
              obtain ⟨h1, h2, h3, -⟩ := HP.out
              exact HNE.out L h1 (by omega) h3
            obtain ⟨x, hx⟩ : ∃ x : Nat, it ps (b + 1) r0 = x := ⟨(it ps (b + 1) r0).toNat, by have := (HP.out.2.2.2 (b + 1)).1; omega⟩
            have hxn : x < n := by have := (HP.out.2.2.2 (b + 1)).2; rw [hx] at this; omega
            have HX : Hid (it ps (b + 1) r0 = x) := hx
            have e3 : w2.cell? ⟨w.heap.size, x, none⟩ = some (.int .i64 (ps.getD x (-1))) := hR2.cell hxn
            have HNX : Hid (it ps (b + 1 + 1) r0 = ps.getD x (-1)) := step_at hx
            rw [hx]
            clear hx
            by_cases hxr : x = r0
            · subst hxr
              have hpx : 0 ≤ ps.getD x (-1) := by have := (HP.out.2.2.2 1).1; rw [HN1.out] at this; exact this
              have HNEW : Hid ((ps.set x (-1)).length = n ∧ Fits (ps.set x (-1)) ∧ RowF (w2.setCell ⟨w.heap.size, x, none⟩ (.int .i64 (-1))) w.heap.size 3 n (fun i => .int .i64 ((ps.set x (-1)).getD i (-1))) ∧
                  cnt (ng (ps.set x (-1))) n + (t + 1) ≤ n ∧ Below w.heap.size w (w2.setCell ⟨w.heap.size, x, none⟩ (.int .i64 (-1)))) := by
                refine ⟨by rw [List.length_set]; exact HL.out, HF.out.cut x, (hR2.set (j := x) (.int .i64 (-1))).congr (fun i _ => ?_), ?_, hB2.setCell (Nat.le_refl _) _⟩
                · rw [getD_set]
                  unfold upd
                  split <;> rfl
                · rw [ng_set]
                  have := cnt_upd (S := ng ps) (j := x) (u := 1) (by omega) (by unfold ng; rw [if_pos hpx]) hxn
                  have := HC.out
                  omega
              clear hpx e3 HNX
              go_wp2_with fail
              go_roundw
              case rel => exact ⟨t + 1, _, by go_num, HNEW.out.1, HNEW.out.2.1, HNEW.out.2.2.1, HNEW.out.2.2.2.1, HNEW.out.2.2.2.2⟩
              case measure => simp [intOf]; omega
            · have g2 : ((x : Int) == (r0 : Int)) = false := by rw [beq_eq_false_iff_ne]; omega
              have HNE2 : Hid (∀ y, 1 ≤ y → y ≤ b + 1 → it ps y r0 ≠ r0) := by
                intro y h1 h2
                by_cases e : y = b + 1
                · subst e; rw [HX.out]; omega
                · exact HNE.out y h1 (by omega)
              rw [← HNX.out] at e3
              clear hxr
              go_wp2_with fail
              go_round
              case rel => exact ⟨b + 1, by omega, by go_num, rfl, rfl, HNE2.out⟩
              case measure => simp [intOf]; omega

end Go.Proofs.Qxb6601261a
