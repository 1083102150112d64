/-
  THE WALK of FnFirstInCycleIsEntryOfFirstCycleChain.
-/
import Derived.Test.Qxb6601261aCyC
import Derived.Test.Qxb6601261aCyQ
namespace Go.Proofs.Qxb6601261a
open Go.RowKit

theorem nat_int {p : Nat → Int} {f : Nat → Value} (h : ∀ i, f i = .int .i64 (p i)) (x : Nat) : f x = .int .i64 (p x) := h x

/-- What next[i] holds when the first k are laid. -/
def nxt (ps : List Int) (k : Nat) (i : Nat) : Int := if i < k ∧ 0 ≤ ps.getD i (-1) then lc ps (ps.getD i (-1)) i else 0

theorem spec_all {ps : List Int} {r : Int} (h : FirstSpec ps r) (ha : ∀ i : Nat, i < ps.length → Rooted ps i) : r = -1 := by
  rcases h with ⟨h, -⟩ | ⟨s, a, j, h1, -, h3, -⟩
  · exact h
  · exact absurd (ha s h1) h3.unrooted
theorem spec_one {ps : List Int} {r : Int} {m : Nat} (h : FirstSpec ps r) (hm : m < ps.length) (hb : ∀ i : Nat, i < m → Rooted ps i) (hn : ¬ Rooted ps m) : ∃ a j, Rho ps m a j ∧ j ≤ ps.length ∧ r = it ps a m := by
  rcases h with ⟨-, h⟩ | ⟨s, a, j, h1, h2, h3, h4, h5⟩
  · exact absurd (h m hm) hn
  · have : s = m := by
      rcases Nat.lt_trichotomy s m with e | e | e
      · exact absurd (hb s e) h3.unrooted
      · exact e
      · exact absurd (h2 m e) hn
    subst this
    exact ⟨a, j, h3, h4, h5⟩
theorem it_next {ps : List Int} {s : Int} {t x : Nat} (h : it ps t s = x) : it ps (t + 1) s = ps.getD x (-1) := by
  show nx ps (it ps t s) = _
  rw [h, nx_pos (by omega)]
  simp

set_option maxRecDepth 100000 in
set_option maxHeartbeats 6400000 in
theorem en_walk (a0 : Option Addr) (n c0 : Nat) (ps : List Int) (w : World) (hz : HoldsI w a0 n ps) (hsh : a0 = none → n = 0 ∧ c0 = 0) (hn63 : n ≤ maxLen) :
    Calls Try.prog 5 #[.slice a0 n c0] w fun e w' => e = .returned (.bool true) ∧ Below w.heap.size w w' := by
  by_cases hbig : n ≤ 1048576
  case neg =>
    have hd : decide (n ≤ 1048576) = false := by simpa using hbig
    clear hbig
    go_enter Try.func5, Try.ntmps5
    go_wp2_with (go_at_call 11; refine (cyBytes11 a0 n c0 _ hn63).mono ?_; rintro e w' ⟨rfl, hw'⟩; rw [hw']; clear hw')
    go_ret
    exact ⟨rfl, Below.refl _ _⟩
  have hd : decide (n ≤ 1048576) = true := by simpa using hbig
  by_cases hn : n ≤ 131072
  case neg =>
    go_enter Try.func5, Try.ntmps5
    go_wp2_with (go_at_call 11; refine (cyBytes11 a0 n c0 _ hn63).mono ?_; rintro e w' ⟨rfl, hw'⟩; rw [hw']; clear hw')
    go_ret
    exact ⟨rfl, Below.refl _ _⟩
  have d1 : decide ((131072 : Int) < (n : Int)) = false := by rw [decide_eq_false_iff_not]; omega
  have HZ : Hid (HoldsI w a0 n ps) := hz
  have HL : Hid (ps.length = n) := hz.1
  clear hz
  go_enter Try.func5, Try.ntmps5
  go_wp2_with (go_at_call 11; refine (cyBytes11 a0 n c0 _ hn63).mono ?_; rintro e w' ⟨rfl, hw'⟩; rw [hw']; clear hw')
  go_loop [4] (fun i => ∃ k : Nat, k ≤ n ∧ i = .int .i64 k ∧ ∀ j, j < k → ps.getD j (-1) < (n : Int)) (fun i => n - (intOf i).toNat)
  case atStart => exact ⟨0, Nat.zero_le _, rfl, fun j h => by omega⟩
  case round =>
    obtain ⟨k, hk, rfl, hall⟩ := hrel
    have HA : Hid (∀ j, j < k → ps.getD j (-1) < (n : Int)) := hall
    clear hall
    by_cases hlt : k < n
    · obtain ⟨b, off, hab, hcc⟩ := HZ.out.place hlt
      subst hab
      have hcell := hcc k hlt
      obtain ⟨y, hy⟩ : ∃ y, y = ps.getD k (-1) := ⟨_, rfl⟩
      rw [← hy] at hcell
      have HY : Hid (y = ps.getD k (-1)) := hy
      clear hy hcc
      by_cases hyn : (n : Int) ≤ y
      · go_wp2_with fail
        go_ret
        exact ⟨rfl, Below.refl _ _⟩
      · go_wp2_with fail
        go_round
        case rel =>
          refine ⟨k + 1, by omega, by go_num, fun j hj => ?_⟩
          by_cases e : j = k
          · subst e; rw [← HY.out]; omega
          · exact HA.out j (by omega)
        case measure => simp [intOf]; omega
    · have HF : Hid (Fits ps) := by
        intro i hi
        rw [HL.out] at hi ⊢
        exact HA.out i (by omega)
      clear HA
      go_wp2_with fail
      refine (clone_any a0 n c0 ps _ HZ.out hsh hbig).mono ?_
      rintro e w1 ⟨he, hb1⟩
      obtain ⟨a, c, rfl, hh1⟩ : ∃ a c, e = .returned (.slice a n c) ∧ HoldsI w1 a n ps := by
        rcases he with ⟨rfl, h0⟩ | ⟨rfl, hr⟩
        · exact ⟨none, 0, by rw [h0], HL.out, .inl h0⟩
        · exact ⟨_, _, rfl, hr.holds HL.out⟩
      clear he
      go_wp2_with fail
      refine (zzFirst_any a n c ps _ hh1 HF.out (by omega)).mono ?_
      rintro e w2 ⟨⟨r, rfl, hspec⟩, hb2⟩
      have HSP : Hid (FirstSpec ps r) := hspec
      have HH2 : Hid (HoldsI w2 a n ps) := hh1.below hb2
      have BW2 : Hid (Below w.heap.size w w2) := hb1.trans (hb2.mono hb1.size)
      clear hspec hh1 hb1 hb2
      go_upto_region 14 with (at_make; refine wpList_make_row rfl _ _ 22 3 rfl (.int .i64 0) 8 Try.underlying22 Try.info3 (by omega) rfl n rfl rfl (by omega) ?_; intro w3 hrow3 hb3)
      go_upto_region 15 with (at_make; refine wpList_make_row rfl _ _ 22 3 rfl (.int .i64 0) 8 Try.underlying22 Try.info3 (by omega) rfl n rfl rfl (by omega) ?_; intro w4 hrow4 hb4)
      have R1 := hrow3.below hb4 hrow3.lt
      have BB : Below w2.heap.size w2 w4 := hb3.trans (hb4.mono hb3.size)
      have l12 := hrow3.lt
      have HH : Hid (∀ W, Below w2.heap.size w2 W → HoldsI W a n ps) := fun W hW => HH2.out.below hW
      have BF : Hid (∀ W, Below w2.heap.size w2 W → Below w.heap.size w W) := fun W hW => BW2.out.trans (hW.mono BW2.out.size)
      clear hrow3 hb3 hb4 HH2 BW2
      generalize hg1 : w2.heap.size = g1 at R1 BB l12 HH BF ⊢
      have HG1 : Hid (w2.heap.size = g1) := hg1
      clear hg1
      generalize w3.heap.size = g2 at hrow4 l12 ⊢
      have R10 : RowF w4 g1 3 n (fun i => .int .i64 (if i < 0 then -1 else 0)) := R1.congr (fun i _ => by rw [if_neg (by omega)])
      clear R1
      go_wp2_with fail
      go_loopw [8] (fun i wr => ∃ k : Nat, k ≤ n ∧ i = .int .i64 k ∧ RowF wr g1 3 n (fun i => .int .i64 (if i < k then -1 else 0)) ∧ RowF wr g2 3 n (fun _ => .int .i64 0) ∧ Below g1 w2 wr) (fun i _ => n - (intOf i).toNat)
      case atStart => exact ⟨0, Nat.zero_le _, rfl, R10, hrow4, BB⟩
      case round =>
        obtain ⟨k2, hk2, rfl, R1, R2, BB2⟩ := hrel
        clear R10 hrow4 BB
        by_cases hlt2 : k2 < n
        · have e1 : wr.cell? ⟨g1, k2, none⟩ = some (.int .i64 0) := by rw [R1.cell hlt2, if_neg (by omega)]
          have e2 : wr.frozen? ⟨g1, k2, none⟩ = false := R1.free
          have HR : Hid (RowF (wr.setCell ⟨g1, k2, none⟩ (.int .i64 (-1))) g1 3 n (fun i => .int .i64 (if i < k2 + 1 then -1 else 0)) ∧ RowF (wr.setCell ⟨g1, k2, none⟩ (.int .i64 (-1))) g2 3 n (fun _ => .int .i64 0) ∧ Below g1 w2 (wr.setCell ⟨g1, k2, none⟩ (.int .i64 (-1)))) := by
            refine ⟨(R1.set (j := k2) (.int .i64 (-1))).congr (fun i _ => ?_), R2.other (by simp; omega) _, BB2.setCell (Nat.le_refl _) _⟩
            by_cases e : i = k2
            · subst e; rw [upd_same, if_pos (by omega)]
            · rw [upd_other _ _ e]
              by_cases h : i < k2
              · rw [if_pos h, if_pos (by omega)]
              · rw [if_neg h, if_neg (by omega)]
          clear R1 R2 BB2
          go_wp2_with fail
          go_roundw
          case rel => exact ⟨k2 + 1, by omega, by go_num, HR.out.1, HR.out.2.1, HR.out.2.2⟩
          case measure => simp [intOf]; omega
        · have R10 : RowF wr g1 3 n (fun v => .int .i64 (lc ps v 0)) := R1.congr (fun i hi => by rw [if_pos (by omega)]; rfl)
          have R20 : RowF wr g2 3 n (fun i => .int .i64 (nxt ps 0 i)) := R2.congr (fun i _ => by unfold nxt; rw [if_neg (by omega)])
          clear R1 R2
          obtain ⟨wa, rfl⟩ : ∃ wa : World, wa = wr := ⟨_, rfl⟩
          go_wp2_with fail
          go_loopw [9] (fun i wr => ∃ k : Nat, k ≤ n ∧ i = .int .i64 k ∧ RowF wr g1 3 n (fun v => .int .i64 (lc ps v k)) ∧ RowF wr g2 3 n (fun i => .int .i64 (nxt ps k i)) ∧ Below g1 w2 wr) (fun i _ => n - (intOf i).toNat)
          case atStart => exact ⟨0, Nat.zero_le _, rfl, R10, R20, BB2⟩
          case round =>
            obtain ⟨k3, hk3, rfl, R1, R2, BB3⟩ := hrel
            clear R10 R20 BB2
            by_cases hlt3 : k3 < n
            · obtain ⟨b, off, hab, hcc⟩ := (HH.out wr BB3).place hlt3
              have hcell := hcc k3 hlt3
              obtain ⟨y, hy⟩ : ∃ y, y = ps.getD k3 (-1) := ⟨_, rfl⟩
              rw [← hy] at hcell
              have HY : Hid (y = ps.getD k3 (-1)) := hy
              have hyn : y < n := by rw [hy, ← HL.out]; exact HF.out k3 (by rw [HL.out]; exact hlt3)
              clear hy hcc
              subst hab
              by_cases hneg : y < 0
              · have HR : Hid (RowF wr g1 3 n (fun v => .int .i64 (lc ps v (k3 + 1))) ∧ RowF wr g2 3 n (fun i => .int .i64 (nxt ps (k3 + 1) i)) ∧ Below g1 w2 wr) := by
                  refine ⟨R1.congr (fun v _ => ?_), R2.congr (fun i _ => ?_), BB3⟩
                  · show _ = Value.int IntKind.i64 (if ps.getD k3 (-1) = v then (k3 : Int) else lc ps v k3)
                    rw [if_neg (by rw [← HY.out]; omega)]
                  · unfold nxt
                    by_cases e : i = k3
                    · subst e; rw [if_neg (by omega), if_neg (by rw [← HY.out]; omega)]
                    · by_cases h : i < k3
                      · simp [h, show i < k3 + 1 by omega]
                      · simp [h, show ¬ i < k3 + 1 by omega]
                clear R1 R2 BB3
                go_wp2_with fail
                go_roundw
                case rel => exact ⟨k3 + 1, by omega, by go_num, HR.out.1, HR.out.2.1, HR.out.2.2⟩
                case measure => simp [intOf]; omega
              · obtain ⟨p, rfl⟩ : ∃ p : Nat, y = p := ⟨y.toNat, by omega⟩
                have hpn : p < n := by omega
                have e1 : wr.cell? ⟨g1, p, none⟩ = some (.int .i64 (lc ps p k3)) := R1.cell hpn
                have e2 : wr.frozen? ⟨g1, p, none⟩ = false := R1.free
                have e3 : wr.cell? ⟨g2, k3, none⟩ = some (.int .i64 (nxt ps k3 k3)) := R2.cell hlt3
                have e4 : wr.frozen? ⟨g2, k3, none⟩ = false := R2.free
                obtain ⟨x, hx⟩ : ∃ x, x = lc ps p k3 := ⟨_, rfl⟩
                obtain ⟨x', hx'⟩ : ∃ x', x' = nxt ps k3 k3 := ⟨_, rfl⟩
                rw [← hx] at e1
                rw [← hx'] at e3
                have HR : Hid (RowF ((wr.setCell ⟨g2, k3, none⟩ (.int .i64 x)).setCell ⟨g1, p, none⟩ (.int .i64 (k3 : Int))) g1 3 n (fun v => .int .i64 (lc ps v (k3 + 1))) ∧
                    RowF ((wr.setCell ⟨g2, k3, none⟩ (.int .i64 x)).setCell ⟨g1, p, none⟩ (.int .i64 (k3 : Int))) g2 3 n (fun i => .int .i64 (nxt ps (k3 + 1) i)) ∧ Below g1 w2 ((wr.setCell ⟨g2, k3, none⟩ (.int .i64 x)).setCell ⟨g1, p, none⟩ (.int .i64 (k3 : Int)))) := by
                  refine ⟨((R1.other (by simp; omega) _).set (j := p) (.int .i64 (k3 : Int))).congr (fun v _ => ?_), ((R2.set (j := k3) (.int .i64 x)).other (by simp; omega) _).congr (fun i _ => ?_), (BB3.setCell (by simp; omega) _).setCell (Nat.le_refl _) _⟩
                  · show _ = Value.int IntKind.i64 (if ps.getD k3 (-1) = v then (k3 : Int) else lc ps v k3)
                    by_cases e : v = p
                    · subst e; rw [upd_same, if_pos HY.out.symm]
                    · rw [upd_other _ _ e, if_neg (by rw [← HY.out]; omega)]
                  · unfold nxt
                    by_cases e : i = k3
                    · subst e; rw [upd_same, if_pos ⟨by omega, by rw [← HY.out]; omega⟩, hx, ← HY.out]
                    · rw [upd_other _ _ e]
                      by_cases h : i < k3
                      · simp [h, show i < k3 + 1 by omega]
                      · simp [h, show ¬ i < k3 + 1 by omega]
                clear R1 R2 BB3 hx hx'
                go_wp2_with fail
                go_roundw
                case rel => exact ⟨k3 + 1, by omega, by go_num, HR.out.1, HR.out.2.1, HR.out.2.2⟩
                case measure => simp [intOf]; omega
            · have ek3 : k3 = n := by omega
              have R1n : RowF wr g1 3 n (fun v => .int .i64 (lc ps v n)) := by rw [ek3] at R1; exact R1
              have R2n : RowF wr g2 3 n (fun i => .int .i64 (nxt ps n i)) := by rw [ek3] at R2; exact R2
              clear R1 R2 ek3
              go_upto_region 27 with (at_make; refine wpList_make_row rfl _ _ 30 4 rfl (.bool false) 1 Try.underlying30 Try.info4 (by omega) rfl n rfl rfl (by omega) ?_; intro w5 hrow5 hb5)
              go_upto_region 28 with (at_make; refine wpList_make_row rfl _ _ 22 3 rfl (.int .i64 0) 8 Try.underlying22 Try.info3 (by omega) rfl n rfl rfl (by omega) ?_; intro w6 hrow6 hb6)
              have bb : Below wr.heap.size wr w6 := hb5.trans (hb6.mono hb5.size)
              have R1 := R1n.below bb R1n.lt
              have R2 := R2n.below bb R2n.lt
              have R3 : RowF w6 wr.heap.size 4 n (fun i => .bool ((fun _ => false : Nat → Bool) i)) := hrow5.below hb6 hrow5.lt
              have R4 : RowF w6 w5.heap.size 3 n (fun i => .int .i64 ((fun _ => 0 : Nat → Int) i)) := hrow6
              have l23 : g2 < wr.heap.size := R2n.lt
              have l34 : wr.heap.size < w5.heap.size := hrow5.lt
              have BB6 : Below g1 w2 w6 := BB3.trans (bb.mono (by omega))
              clear hrow5 hrow6 hb5 hb6 R1n R2n bb BB3
              generalize wr.heap.size = g3 at R3 l23 l34 ⊢
              generalize w5.heap.size = g4 at R4 l34 ⊢
              go_wp2_with fail
              go_loopw [14, 15] (fun q i wr => ∃ (k qt : Nat) (R : Nat → Bool) (Q : Nat → Int), k ≤ n ∧ i = .int .i64 k ∧ q = .int .i64 qt ∧ RowF wr g1 3 n (fun v => .int .i64 (lc ps v n)) ∧ RowF wr g2 3 n (fun i => .int .i64 (nxt ps n i)) ∧
                  RowF wr g3 4 n (fun i => .bool (R i)) ∧ RowF wr g4 3 n (fun i => .int .i64 (Q i)) ∧ Bf ps R Q 0 qt ∧ (∀ i, i < n → R i = true → i < k) ∧ (∀ i, i < k → ps.getD i (-1) < 0 → R i = true) ∧ Below g1 w2 wr) (fun _ i _ => n - (intOf i).toNat)
              case atStart => exact ⟨0, 0, _, _, Nat.zero_le _, rfl, rfl, R1, R2, R3, R4, Bf.start _ _, fun i _ h => (by cases h), fun i h => absurd h (by omega), BB6⟩
              case round =>
                obtain ⟨k4, qt, R, Q, hk4, rfl, rfl, R1', R2', R3', R4', hBf, hRk, hRoot, BB4⟩ := hrel
                clear R1 R2 R3 R4 BB6
                have HBf : Hid (Bf ps R Q 0 qt) := hBf
                have HRk : Hid (∀ i, i < n → R i = true → i < k4) := hRk
                have HRoot : Hid (∀ i, i < k4 → ps.getD i (-1) < 0 → R i = true) := hRoot
                clear hBf hRk hRoot
                have hqt : qt ≤ n := by rw [← HL.out]; exact HBf.out.le
                by_cases hlt4 : k4 < n
                · obtain ⟨b, off, hab, hcc⟩ := (HH.out wr BB4).place hlt4
                  have hcell := hcc k4 hlt4
                  obtain ⟨y, hy⟩ : ∃ y, y = ps.getD k4 (-1) := ⟨_, rfl⟩
                  rw [← hy] at hcell
                  have HY : Hid (y = ps.getD k4 (-1)) := hy
                  clear hy hcc
                  subst hab
                  by_cases hneg : y < 0
                  · have hRf : R k4 = false := by
                      cases h : R k4
                      · rfl
                      · have := HRk.out k4 hlt4 h; omega
                    have hroom : qt < n := by rw [← HL.out]; exact HBf.out.room (by rw [HL.out]; exact hlt4) hRf
                    have e1 : wr.cell? ⟨g3, k4, none⟩ = some (.bool (R k4)) := R3'.cell hlt4
                    have e2 : wr.frozen? ⟨g3, k4, none⟩ = false := R3'.free
                    have e3 : wr.cell? ⟨g4, qt, none⟩ = some (.int .i64 (Q qt)) := R4'.cell hroom
                    have e4 : wr.frozen? ⟨g4, qt, none⟩ = false := R4'.free
                    obtain ⟨x', hx'⟩ : ∃ x', x' = Q qt := ⟨_, rfl⟩
                    rw [← hx'] at e3
                    obtain ⟨W, hW⟩ : ∃ W, W = (wr.setCell ⟨g3, k4, none⟩ (.bool true)).setCell ⟨g4, qt, none⟩ (.int .i64 (k4 : Int)) := ⟨_, rfl⟩
                    have HR : Hid (RowF W g1 3 n (fun v => .int .i64 (lc ps v n)) ∧ RowF W g2 3 n (fun i => .int .i64 (nxt ps n i)) ∧
                        RowF W g3 4 n (fun i => .bool (upd R k4 true i)) ∧ RowF W g4 3 n (fun i => .int .i64 (upd Q qt (k4 : Int) i)) ∧ Below g1 w2 W) := by
                      rw [hW]
                      refine ⟨(R1'.other (by simp; omega) _).other (by simp; omega) _, (R2'.other (by simp; omega) _).other (by simp; omega) _, ((R3'.set (j := k4) (.bool true)).other (by simp; omega) _).congr (fun i _ => ?_), ((R4'.other (by simp; omega) _).set (j := qt) (.int .i64 (k4 : Int))).congr (fun i _ => ?_), (BB4.setCell (by simp; omega) _).setCell (by simp; omega) _⟩
                      · unfold upd; split <;> rfl
                      · unfold upd; split <;> rfl
                    have HNB : Hid (Bf ps (upd R k4 true) (upd Q qt (k4 : Int)) 0 (qt + 1) ∧ (∀ i, i < n → upd R k4 true i = true → i < k4 + 1) ∧ (∀ i, i < k4 + 1 → ps.getD i (-1) < 0 → upd R k4 true i = true)) := by
                      refine ⟨HBf.out.add (by rw [HL.out]; exact hlt4) hRf (rooted_child HY.out.symm (Rooted.neg hneg)), fun i hi h => ?_, fun i hi h => ?_⟩
                      · by_cases e : i = k4
                        · omega
                        · rw [upd_other _ _ e] at h; have := HRk.out i hi h; omega
                      · by_cases e : i = k4
                        · subst e; exact upd_same _ _ _
                        · rw [upd_other _ _ e]; exact HRoot.out i (by omega) h
                    have HWE : Hid (W = (wr.setCell ⟨g3, k4, none⟩ (.bool true)).setCell ⟨g4, qt, none⟩ (.int .i64 (k4 : Int))) := hW
                    clear R1' R2' R3' R4' BB4 hx' hW hRf
                    go_wp2_with fail
                    go_roundw
                    case rel =>
                      rw [← HWE.out]
                      exact ⟨k4 + 1, qt + 1, _, _, by omega, by go_num, by go_num, HR.out.1, HR.out.2.1, HR.out.2.2.1, HR.out.2.2.2.1, HNB.out.1, HNB.out.2.1, HNB.out.2.2, HR.out.2.2.2.2⟩
                    case measure => simp [intOf]; omega
                  · have HNB : Hid ((∀ i, i < n → R i = true → i < k4 + 1) ∧ (∀ i, i < k4 + 1 → ps.getD i (-1) < 0 → R i = true)) := by
                      refine ⟨fun i hi h => by have := HRk.out i hi h; omega, fun i hi h => ?_⟩
                      by_cases e : i = k4
                      · subst e; rw [← HY.out] at h; omega
                      · exact HRoot.out i (by omega) h
                    go_wp2_with fail
                    go_roundw
                    case rel => exact ⟨k4 + 1, qt, R, Q, by omega, by go_num, rfl, R1', R2', R3', R4', HBf.out, HNB.out.1, HNB.out.2, BB4⟩
                    case measure => simp [intOf]; omega
                · have HROOT : Hid (∀ i, i < ps.length → ps.getD i (-1) < 0 → R i = true) := fun i hi h => HRoot.out i (by rw [HL.out] at hi; omega) h
                  clear HRk HRoot
                  obtain ⟨wb, rfl⟩ : ∃ wb : World, wb = wr := ⟨_, rfl⟩
                  go_wp2_with fail
                  go_loopw [13, 14] (fun h q wr => ∃ (qh qt : Nat) (R : Nat → Bool) (Q : Nat → Int), h = .int .i64 qh ∧ q = .int .i64 qt ∧ RowF wr g1 3 n (fun v => .int .i64 (lc ps v n)) ∧ RowF wr g2 3 n (fun i => .int .i64 (nxt ps n i)) ∧
                      RowF wr g3 4 n (fun i => .bool (R i)) ∧ RowF wr g4 3 n (fun i => .int .i64 (Q i)) ∧ Bf ps R Q qh qt ∧ (∀ i, i < ps.length → ps.getD i (-1) < 0 → R i = true) ∧ Below g1 w2 wr) (fun h _ _ => n - (intOf h).toNat)
                  case atStart => exact ⟨0, qt, R, Q, rfl, rfl, R1', R2', R3', R4', HBf.out, HROOT.out, BB4⟩
                  case round =>
                    obtain ⟨qh, qt, R, Q, rfl, rfl, R1, R2, R3, R4, hBf, hRoot, BB5⟩ := hrel
                    clear R1' R2' R3' R4' BB4 HBf HROOT hqt
                    have HBf : Hid (Bf ps R Q qh qt) := hBf
                    have HROOT : Hid (∀ i, i < ps.length → ps.getD i (-1) < 0 → R i = true) := hRoot
                    clear hBf hRoot
                    have hqt : qt ≤ n := by rw [← HL.out]; exact HBf.out.le
                    have hqq : qh ≤ qt := HBf.out.2.2.2.2.1
                    by_cases hlt5 : qh < qt
                    · obtain ⟨v, hv⟩ : ∃ v : Nat, Q qh = v := ⟨(Q qh).toNat, by have := (HBf.out.1 qh hlt5).1; omega⟩
                      have hvn : v < n := by have := (HBf.out.1 qh hlt5).2; rw [hv, HL.out] at this; omega
                      have HV : Hid (Q qh = v) := hv
                      have e1 : wr.cell? ⟨g4, qh, none⟩ = some (.int .i64 (v : Int)) := by rw [R4.cell (by omega), hv]
                      have e2 : wr.cell? ⟨g1, v, none⟩ = some (.int .i64 (lc ps v n)) := R1.cell hvn
                      have HVR : Hid (Rooted ps v) := by
                        have h6 := HBf.out.2.2.2.2.2 qh hlt5
                        rw [hv] at h6
                        simp only [Int.toNat_natCast] at h6
                        exact (HBf.out.2.1 v (by rw [HL.out]; exact hvn) h6).1
                      clear hv
                      obtain ⟨wc, rfl⟩ : ∃ wc : World, wc = wr := ⟨_, rfl⟩
                      go_wp2_with fail
                      go_loopw [14, 17] (fun q cc wr => ∃ (qt t : Nat) (R : Nat → Bool) (Q : Nat → Int), t ≤ n ∧ qh < qt ∧ q = .int .i64 qt ∧ cc = .int .i64 (lc ps v t) ∧ RowF wr g1 3 n (fun v => .int .i64 (lc ps v n)) ∧ RowF wr g2 3 n (fun i => .int .i64 (nxt ps n i)) ∧
                          RowF wr g3 4 n (fun i => .bool (R i)) ∧ RowF wr g4 3 n (fun i => .int .i64 (Q i)) ∧ Bf ps R Q qh qt ∧ Kids ps R v t ∧ Q qh = v ∧ (∀ i, i < ps.length → ps.getD i (-1) < 0 → R i = true) ∧ Below g1 w2 wr) (fun _ cc _ => (intOf cc + 1).toNat)
                      case atStart => exact ⟨qt, n, R, Q, Nat.le_refl _, hlt5, rfl, rfl, R1, R2, R3, R4, HBf.out, (by rw [← HL.out]; exact Kids.start _ _ _), HV.out, HROOT.out, BB5⟩
                      case round =>
                        obtain ⟨qt, t, R, Q, ht, hqt2, rfl, rfl, R1', R2', R3', R4', hBf, hK, hQv, hRoot, BB6⟩ := hrel
                        clear R1 R2 R3 R4 BB5 HBf HROOT HV e1 e2 hlt5 hqq hqt
                        have HBf : Hid (Bf ps R Q qh qt) := hBf
                        have HK : Hid (Kids ps R v t) := hK
                        have HV : Hid (Q qh = v) := hQv
                        have HROOT : Hid (∀ i, i < ps.length → ps.getD i (-1) < 0 → R i = true) := hRoot
                        clear hBf hK hQv hRoot
                        have hqt : qt ≤ n := by rw [← HL.out]; exact HBf.out.le
                        have hlr := lc_range ps v t
                        by_cases hneg : lc ps v t < 0
                        · have HDN : Hid (Bf ps R Q (qh + 1) qt) := Kids.done HBf.out hqt2 (by rw [HV.out]; exact HK.out) (by rw [HV.out]; exact hneg)
                          obtain ⟨x, hx⟩ : ∃ x, x = lc ps v t := ⟨_, rfl⟩
                          rw [← hx] at hneg
                          rw [← hx]
                          clear hlr hx
                          go_wp2_with fail
                          go_roundw
                          case rel => exact ⟨qh + 1, qt, R, Q, by go_num, rfl, R1', R2', R3', R4', HDN.out, HROOT.out, BB6⟩
                          case measure => simp [intOf]; omega
                        · obtain ⟨x, hx⟩ : ∃ x : Nat, lc ps v t = x := ⟨(lc ps v t).toNat, by omega⟩
                          have hxt : x < t := by omega
                          have hxn : x < n := by omega
                          have hpx : ps.getD x (-1) = v := by
                            have := lc_hit (ps := ps) (v := v) (m := t) (by omega)
                            rw [hx] at this
                            simpa using this
                          have HX : Hid (lc ps v t = x) := hx
                          have hnx : nxt ps n x = lc ps v x := by unfold nxt; rw [hpx, if_pos ⟨hxn, by omega⟩]
                          have e3 : wr.cell? ⟨g2, x, none⟩ = some (.int .i64 (lc ps v x)) := by rw [R2'.cell hxn, hnx]
                          have e1 : wr.cell? ⟨g3, x, none⟩ = some (.bool (R x)) := R3'.cell hxn
                          have e2 : wr.frozen? ⟨g3, x, none⟩ = false := R3'.free
                          have hlx := lc_range ps v x
                          have HRX : Hid (Rooted ps x) := rooted_child hpx HVR.out
                          obtain ⟨z, hz⟩ : ∃ z, z = lc ps v x := ⟨_, rfl⟩
                          rw [← hz] at e3 hlx
                          have HZ' : Hid (z = lc ps v x) := hz
                          rw [hx]
                          clear hx hneg hlr hnx hpx hz
                          cases hRx : R x
                          · rw [hRx] at e1
                            have hroom : qt < n := by rw [← HL.out]; exact HBf.out.room (by rw [HL.out]; exact hxn) hRx
                            have e5 : wr.cell? ⟨g4, qt, none⟩ = some (.int .i64 (Q qt)) := R4'.cell hroom
                            have e4 : wr.frozen? ⟨g4, qt, none⟩ = false := R4'.free
                            obtain ⟨x', hx'⟩ : ∃ x', x' = Q qt := ⟨_, rfl⟩
                            rw [← hx'] at e5
                            obtain ⟨W, hW⟩ : ∃ W, W = (wr.setCell ⟨g3, x, none⟩ (.bool true)).setCell ⟨g4, qt, none⟩ (.int .i64 (x : Int)) := ⟨_, rfl⟩
                            have HR : Hid (RowF W g1 3 n (fun v => .int .i64 (lc ps v n)) ∧ RowF W g2 3 n (fun i => .int .i64 (nxt ps n i)) ∧
                                RowF W g3 4 n (fun i => .bool (upd R x true i)) ∧ RowF W g4 3 n (fun i => .int .i64 (upd Q qt (x : Int) i)) ∧ Below g1 w2 W) := by
                              rw [hW]
                              refine ⟨(R1'.other (by simp; omega) _).other (by simp; omega) _, (R2'.other (by simp; omega) _).other (by simp; omega) _, ((R3'.set (j := x) (.bool true)).other (by simp; omega) _).congr (fun i _ => ?_), ((R4'.other (by simp; omega) _).set (j := qt) (.int .i64 (x : Int))).congr (fun i _ => ?_), (BB6.setCell (by simp; omega) _).setCell (by simp; omega) _⟩
                              · unfold upd; split <;> rfl
                              · unfold upd; split <;> rfl
                            have hmono : ∀ i, R i = true → upd R x true i = true := by
                              intro i hi
                              unfold upd
                              split
                              · rfl
                              · exact hi
                            have HNB : Hid (Bf ps (upd R x true) (upd Q qt (x : Int)) qh (qt + 1) ∧ Kids ps (upd R x true) v x ∧ upd Q qt (x : Int) qh = v ∧ (∀ i, i < ps.length → ps.getD i (-1) < 0 → upd R x true i = true)) := by
                              refine ⟨HBf.out.add (by rw [HL.out]; exact hxn) hRx HRX.out, HK.out.step HX.out hmono (upd_same _ _ _), ?_, fun i hi h => hmono i (HROOT.out i hi h)⟩
                              rw [upd_other _ _ (by omega)]
                              exact HV.out
                            have HWE : Hid (W = (wr.setCell ⟨g3, x, none⟩ (.bool true)).setCell ⟨g4, qt, none⟩ (.int .i64 (x : Int))) := hW
                            clear R1' R2' R3' R4' BB6 hx' hW hRx hmono
                            go_wp2_with fail
                            go_roundw
                            case rel =>
                              rw [← HWE.out]
                              exact ⟨qt + 1, x, _, _, by omega, by omega, by go_num, by rw [HZ'.out], HR.out.1, HR.out.2.1, HR.out.2.2.1, HR.out.2.2.2.1, HNB.out.1, HNB.out.2.1, HNB.out.2.2.1, HNB.out.2.2.2, HR.out.2.2.2.2⟩
                            case measure => simp [intOf]; omega
                          · rw [hRx] at e1
                            have HK2 : Hid (Kids ps R v x) := HK.out.step HX.out (fun _ h => h) hRx
                            clear hRx
                            go_wp2_with fail
                            go_roundw
                            case rel => exact ⟨qt, x, R, Q, by omega, hqt2, rfl, by rw [HZ'.out], R1', R2', R3', R4', HBf.out, HK2.out, HV.out, HROOT.out, BB6⟩
                            case measure => simp [intOf]; omega
                    · have HALL : Hid (∀ i, i < ps.length → (R i = true ↔ Rooted ps i)) := by
                        have e : qh = qt := by omega
                        have hb := HBf.out
                        rw [e] at hb
                        exact Bf.all HF.out hb HROOT.out
                      clear R1 R2 R4 HBf HROOT hqq
                      obtain ⟨wc, rfl⟩ : ∃ wc : World, wc = wr := ⟨_, rfl⟩
                      go_wp2_with fail
                      go_loop [18, 19] (fun s i => ∃ m : Nat, m ≤ n ∧ i = .int .i64 m ∧ s = .int .i64 (-1) ∧ ∀ j, j < m → R j = true) (fun _ i => n - (intOf i).toNat)
                      case atStart => exact ⟨0, Nat.zero_le _, rfl, rfl, fun j h => by omega⟩
                      case round =>
                        obtain ⟨m, hm, rfl, rfl, hall⟩ := hrel
                        have HA : Hid (∀ j, j < m → R j = true) := hall
                        clear hall
                        by_cases hmn : m < n
                        case neg =>
                          have hr : r = -1 := spec_all HSP.out (fun i hi => (HALL.out i hi).1 (HA.out i (by rw [HL.out] at hi; omega)))
                          subst hr
                          go_wp2_with fail
                          go_ret
                          exact ⟨rfl, BF.out _ BB5⟩
                        have e1 : wc.cell? ⟨g3, m, none⟩ = some (.bool (R m)) := R3.cell hmn
                        cases hRm : R m
                        rotate_left
                        · rw [hRm] at e1
                          have HA2 : Hid (∀ j, j < m + 1 → R j = true) := by
                            intro j hj
                            by_cases e : j = m
                            · subst e; exact hRm
                            · exact HA.out j (by omega)
                          clear hRm
                          go_wp2_with fail
                          go_round
                          case rel => exact ⟨m + 1, by omega, by go_num, rfl, HA2.out⟩
                          case measure => simp [intOf]; omega
                        rw [hRm] at e1
                        obtain ⟨ia, ij, hrho, hij, hr⟩ := spec_one HSP.out (by rw [HL.out]; exact hmn) (fun i hi => (HALL.out i (by rw [HL.out]; omega)).1 (HA.out i hi)) (fun h => by rw [(HALL.out m (by rw [HL.out]; exact hmn)).2 h] at hRm; cases hRm)
                        have HRH : Hid (Rho ps m ia ij) := hrho
                        have HR : Hid (r = it ps ia m) := hr
                        have hij' : ij ≤ n := by rw [← HL.out]; exact hij
                        have hia : ia < ij := hrho.1
                        have HPOS : Hid (∀ t, 0 ≤ it ps t m ∧ it ps t m < n) := fun t => ⟨hrho.pos t, by rw [← HL.out]; exact it_lt HF.out (by rw [HL.out]; omega) t⟩
                        clear hrho hij hr HSP HALL HA hRm
                        go_wp2_with fail
                        go_loop [20, 21] (fun cc i => ∃ t : Nat, t ≤ n ∧ i = .int .i64 t ∧ cc = .int .i64 (it ps t m)) (fun _ i => n - (intOf i).toNat)
                        case atStart => exact ⟨0, Nat.zero_le _, rfl, rfl⟩
                        case round =>
                          obtain ⟨t, ht, rfl, rfl⟩ := hrel
                          obtain ⟨x, hx⟩ : ∃ x : Nat, it ps t m = x := ⟨(it ps t m).toNat, by have := (HPOS.out t).1; omega⟩
                          have hxn : x < n := by have := (HPOS.out t).2; rw [hx] at this; omega
                          have HNX : Hid (it ps (t + 1) m = ps.getD x (-1)) := it_next hx
                          have HX : Hid (it ps t m = x) := hx
                          rw [hx]
                          clear hx
                          by_cases htn : t < n
                          · obtain ⟨b, off, hab, hcc⟩ := (HH.out wc BB5).place hxn
                            have hcell := hcc x hxn
                            obtain ⟨y, hy⟩ : ∃ y, y = ps.getD x (-1) := ⟨_, rfl⟩
                            rw [← hy] at hcell
                            have HY : Hid (it ps (t + 1) m = y) := by rw [hy]; exact HNX.out
                            clear hy hcc HNX
                            subst hab
                            go_wp2_with fail
                            go_round
                            case rel => exact ⟨t + 1, by omega, by go_num, by rw [HY.out]⟩
                            case measure => simp [intOf]; omega
                          · have etn : t = n := by omega
                            have HCN : Hid (it ps n m = x) := by rw [← etn]; exact HX.out
                            clear etn HNX HX
                            go_upto_region 61 with (at_make; refine wpList_make_row rfl _ _ 30 4 rfl (.bool false) 1 Try.underlying30 Try.info4 (by omega) rfl n rfl rfl (by omega) ?_; intro w7 hrow7 hb7)
                            have RO : RowF w7 wc.heap.size 4 n (fun i => .bool ((fun _ => false : Nat → Bool) i)) := hrow7
                            have l5 : g1 < wc.heap.size := by have := R3.lt; omega
                            have BB7 : Below g1 w2 w7 := BB5.trans (hb7.mono (by omega))
                            clear hrow7 hb7 R3 e1
                            generalize wc.heap.size = g5 at RO l5 ⊢
                            have HPC : Hid (∀ t, 0 ≤ it ps t x ∧ it ps t x < n) := by
                              intro t
                              rw [← HCN.out, ← it_add]
                              exact HPOS.out (t + n)
                            go_wp2_with fail
                            go_loopw [23, 24] (fun d i wr => ∃ (t : Nat) (O : Nat → Bool), t ≤ n ∧ i = .int .i64 t ∧ d = .int .i64 (it ps t x) ∧ RowF wr g5 4 n (fun i => .bool (O i)) ∧ Marks ps O x t ∧ (∀ b, 1 ≤ b → b ≤ t → it ps b x ≠ x) ∧ Below g1 w2 wr) (fun _ i _ => n - (intOf i).toNat)
                            case atStart => exact ⟨0, _, Nat.zero_le _, rfl, rfl, RO, Marks.start _ _, fun b h1 h2 => by omega, BB7⟩
                            case round =>
                              obtain ⟨t2, O, ht2, rfl, rfl, RO2, hMk, hne, BB8⟩ := hrel
                              clear RO BB7
                              have HMk : Hid (Marks ps O x t2) := hMk
                              have HNE : Hid (∀ b, 1 ≤ b → b ≤ t2 → it ps b x ≠ x) := hne
                              clear hMk hne
                              by_cases ht2n : t2 < n
                              case neg =>
                                exfalso
                                have hper := HRH.out.period (n := n) (by omega)
                                rw [HCN.out] at hper
                                exact HNE.out (ij - ia) (by omega) (by omega) hper
                              obtain ⟨z, hz⟩ : ∃ z : Nat, it ps t2 x = z := ⟨(it ps t2 x).toNat, by have := (HPC.out t2).1; omega⟩
                              have hzn : z < n := by have := (HPC.out t2).2; rw [hz] at this; omega
                              have HNX : Hid (it ps (t2 + 1) x = ps.getD z (-1)) := it_next hz
                              have HMN : Hid (Marks ps (upd O z true) x (t2 + 1)) := HMk.out.step hz
                              rw [hz]
                              clear hz
                              obtain ⟨b, off, hab, hcc⟩ := (HH.out wr BB8).place hzn
                              have hcell := hcc z hzn
                              have hbg : b < g1 := by
                                obtain ⟨b', off', hab', hcc'⟩ := (HH.out w2 (Below.refl _ _)).place hzn
                                rw [hab] at hab'
                                simp only [Option.some.injEq, Addr.mk.injEq, and_true] at hab'
                                rw [hab'.1]
                                have := cell_block (hcc' z hzn)
                                rw [HG1.out] at this
                                exact this
                              have hne5 : b ≠ g5 := by omega
                              have e1 : wr.cell? ⟨g5, z, none⟩ = some (.bool (O z)) := RO2.cell hzn
                              have e2 : wr.frozen? ⟨g5, z, none⟩ = false := RO2.free
                              obtain ⟨o, ho⟩ : ∃ o, o = O z := ⟨_, rfl⟩
                              rw [← ho] at e1
                              obtain ⟨y, hy⟩ : ∃ y, y = ps.getD z (-1) := ⟨_, rfl⟩
                              rw [← hy] at hcell
                              have HY : Hid (it ps (t2 + 1) x = y) := by rw [hy]; exact HNX.out
                              have HRO : Hid (RowF (wr.setCell ⟨g5, z, none⟩ (.bool true)) g5 4 n (fun i => .bool (upd O z true i)) ∧ Below g1 w2 (wr.setCell ⟨g5, z, none⟩ (.bool true))) := by
                                refine ⟨(RO2.set (j := z) (.bool true)).congr (fun i _ => ?_), BB8.setCell (by simp; omega) _⟩
                                unfold upd; split <;> rfl
                              subst hab
                              clear hy hcc HNX ho RO2 BB8 HMk
                              by_cases hyx : y = x
                              case neg =>
                                have g1' : (y == (x : Int)) = false := by simpa using hyx
                                have HNE2 : Hid (∀ b, 1 ≤ b → b ≤ t2 + 1 → it ps b x ≠ x) := by
                                  intro b h1 h2
                                  by_cases e : b = t2 + 1
                                  · subst e; rw [HY.out]; exact hyx
                                  · exact HNE.out b h1 (by omega)
                                clear hyx
                                go_wp2_with fail
                                go_roundw
                                case rel => exact ⟨t2 + 1, _, by omega, by go_num, by rw [HY.out], HRO.out.1, HMN.out, HNE2.out, HRO.out.2⟩
                                case measure => simp [intOf]; omega
                              have g1' : (y == (x : Int)) = true := by simpa using hyx
                              have HT : Hid (it ps (t2 + 1) x = x) := by rw [HY.out]; exact hyx
                              have HEN : Hid ((∀ b, b < ia → upd O z true (it ps b m).toNat = false) ∧ upd O z true (it ps ia m).toNat = true) := by
                                refine entry (n := n) (T := t2 + 1) HF.out (by rw [HL.out]; omega) HRH.out hij' (by omega) (by rw [HCN.out]; exact HT.out) (by rw [HCN.out]; exact HMN.out)
                              obtain ⟨O', hO'⟩ : ∃ O', O' = upd O z true := ⟨_, rfl⟩
                              have HEN' : Hid ((∀ b, b < ia → O' (it ps b m).toNat = false) ∧ O' (it ps ia m).toNat = true) := by rw [hO']; exact HEN.out
                              have HRO' : Hid (RowF (wr.setCell ⟨g5, z, none⟩ (.bool true)) g5 4 n (fun i => .bool (O' i)) ∧ Below g1 w2 (wr.setCell ⟨g5, z, none⟩ (.bool true))) := by rw [hO']; exact HRO.out
                              clear HEN HRO HMN hO' hyx HNE
                              go_wp2_with fail
                              obtain ⟨wd, hwd⟩ : ∃ wd, wd = wr.setCell ⟨g5, z, none⟩ (.bool true) := ⟨_, rfl⟩
                              rw [← hwd]
                              have RD : RowF wd g5 4 n (fun i => .bool (O' i)) := by rw [hwd]; exact HRO'.out.1
                              have BD : Below g1 w2 wd := by rw [hwd]; exact HRO'.out.2
                              clear hwd HRO' hcell e1 e2
                              go_loop [25, 26] (fun ee i => ∃ t : Nat, t ≤ n ∧ i = .int .i64 t ∧ ee = .int .i64 (it ps t m) ∧ ∀ b, b < t → O' (it ps b m).toNat = false) (fun _ i => n - (intOf i).toNat)
                              case atStart => exact ⟨0, Nat.zero_le _, rfl, rfl, fun b h => by omega⟩
                              case round =>
                                obtain ⟨t3, ht3, rfl, rfl, hno⟩ := hrel
                                have HNO : Hid (∀ b, b < t3 → O' (it ps b m).toNat = false) := hno
                                clear hno
                                have hta : t3 ≤ ia := by
                                  apply Classical.byContradiction
                                  intro h
                                  have h1 := HNO.out ia (by omega)
                                  rw [HEN'.out.2] at h1
                                  cases h1
                                have ht3n : t3 < n := by omega
                                obtain ⟨v, hv⟩ : ∃ v : Nat, it ps t3 m = v := ⟨(it ps t3 m).toNat, by have := (HPOS.out t3).1; omega⟩
                                have hvn : v < n := by have := (HPOS.out t3).2; rw [hv] at this; omega
                                have e1 : wd.cell? ⟨g5, v, none⟩ = some (.bool (O' v)) := RD.cell hvn
                                have HV : Hid (it ps t3 m = v) := hv
                                have HNX : Hid (it ps (t3 + 1) m = ps.getD v (-1)) := it_next hv
                                rw [hv]
                                clear hv
                                cases hOv : O' v
                                · rw [hOv] at e1
                                  obtain ⟨b2, off2, hab2, hcc2⟩ := (HH.out wd BD).place hvn
                                  have hcell2 := hcc2 v hvn
                                  obtain ⟨y2, hy2⟩ : ∃ y2, y2 = ps.getD v (-1) := ⟨_, rfl⟩
                                  rw [← hy2] at hcell2
                                  have HY2 : Hid (it ps (t3 + 1) m = y2) := by rw [hy2]; exact HNX.out
                                  have HNO2 : Hid (∀ b, b < t3 + 1 → O' (it ps b m).toNat = false) := by
                                    intro b hb
                                    by_cases e : b = t3
                                    · subst e; rw [HV.out]; simpa using hOv
                                    · exact HNO.out b (by omega)
                                  simp only [Option.some.injEq, Addr.mk.injEq, and_true] at hab2
                                  obtain ⟨rfl, rfl⟩ := hab2
                                  clear hy2 hcc2 HNX hOv
                                  go_wp2_with fail
                                  go_round
                                  case rel => exact ⟨t3 + 1, by omega, by go_num, by rw [HY2.out], HNO2.out⟩
                                  case measure => simp [intOf]; omega
                                · rw [hOv] at e1
                                  have eta : t3 = ia := by
                                    apply Classical.byContradiction
                                    intro h
                                    have h1 := HEN'.out.1 t3 (by omega)
                                    rw [HV.out] at h1
                                    simp only [Int.toNat_natCast] at h1
                                    rw [hOv] at h1
                                    cases h1
                                  have hrv : r = v := by rw [HR.out, ← eta]; exact HV.out
                                  clear hOv eta HNX HV HNO
                                  subst hrv
                                  go_wp2_with fail
                                  go_ret
                                  exact ⟨rb (by simp), BF.out _ BD⟩

end Go.Proofs.Qxb6601261a
