/-
  THE WALK of firstInCycle.
-/
import Derived.Test.Qxb6601261aCyB
import Derived.Deep.DeepCutAuto
namespace Go.Proofs.Qxb6601261a
open Go.RowKit

/-- A slice value's length: for a loop's measure. -/
def lenOf : Value → Nat | .slice _ n _ => n | _ => 0

theorem owns_cut0 {w : World} {base e n c : Nat} {a : Option Addr} {xs : List Value} (h : w.ownsRow base e 1 (.slice a n c) n xs) : w.ownsRow base e 1 (.slice a 0 c) 0 [] := by
  refine ⟨by simp, ?_⟩
  rcases h.2 with ⟨h', -⟩ | ⟨g, cap, cur, h', hb, hg, hnc, hcm, hcs, -⟩
  · left
    simp only [Value.slice.injEq] at h'
    obtain ⟨rfl, -, rfl⟩ := h'
    exact ⟨rfl, rfl⟩
  · right
    simp only [Value.slice.injEq, true_and] at h'
    obtain ⟨rfl, rfl⟩ := h'
    exact ⟨g, c, cur, rfl, hb, hg, Nat.zero_le _, hcm, hcs, by simp⟩
theorem owns_some {w : World} {base e n c : Nat} {a : Option Addr} {xs : List Value} (h : w.ownsRow base e 1 (.slice a n c) n xs) (hn : 0 < n) : ∃ g, a = some ⟨g, 0, none⟩ ∧ base ≤ g := by
  rcases h.2 with ⟨-, h0⟩ | ⟨g, cap, cur, h', hb, -⟩
  · omega
  · simp only [Value.slice.injEq, true_and] at h'
    exact ⟨g, h'.1, hb⟩

set_option maxRecDepth 100000 in
set_option maxHeartbeats 3200000 in
theorem first_any (a0 : Option Addr) (n c0 : Nat) (ps : List Int) (w : World) (hz : HoldsI w a0 n ps) (hf : Fits ps) (hn : n ≤ 262144) :
    Calls Try.prog 15 #[.slice a0 n c0] w fun e w' => (∃ r : Int, e = .returned (.int .i64 r) ∧ FirstSpec ps r) ∧ Below w.heap.size w w' := by
  have HZ : Hid (HoldsI w a0 n ps) := hz
  have HF : Hid (Fits ps) := hf
  have HL : Hid (ps.length = n) := hz.1
  clear hz hf
  go_enter Try.func15, Try.ntmps15
  go_wp2_with (at_make; refine wpList_make_row rfl _ _ 34 5 rfl (.int .u8 0) 1 Try.underlying34 Try.info5 (by omega) rfl n rfl rfl (by omega) ?_; intro w1 hrow hb1)
  go_loopw [4, 14] (fun v i wr => ∃ (k : Nat) (S : Nat → Int) (a : Option Addr) (c : Nat), k ≤ n ∧ i = .int .i64 k ∧ v = .slice a 0 c ∧ wr.ownsRow (w.heap.size + 1) 3 1 (.slice a 0 c) 0 [] ∧
      RowF wr w.heap.size 5 n (fun i => .int .u8 (S i)) ∧ Good ps S k ∧ Below w.heap.size w wr) (fun _ i _ => n - (intOf i).toNat)
  case atStart => exact ⟨0, fun _ => 0, none, 0, Nat.zero_le _, rfl, rfl, World.ownsRow_nil _ _ _ _, hrow, ⟨fun i _ => .inl rfl, fun i hi => absurd hi (by omega)⟩, hb1⟩
  case round =>
    obtain ⟨k, S, a, c, hk, rfl, rfl, hown, hR, hG, hB⟩ := hrel
    clear hrow hb1
    obtain ⟨wo, rfl⟩ : ∃ wo : World, wo = wr := ⟨_, rfl⟩
    have HG : Hid (Good ps S k) := hG
    clear hG
    by_cases hlt : k < n
    case neg =>
      have HS : Hid (FirstSpec ps (-1)) := by
        refine .inl ⟨rfl, fun i hi => ?_⟩
        rw [HL.out] at hi
        rcases HG.out.1 i (by rw [HL.out]; exact hi) with h | ⟨_, h⟩
        · have := HG.out.2 i (by omega); omega
        · exact h
      go_wp2_with fail
      go_ret
      exact ⟨⟨-1, rfl, HS.out⟩, hB⟩
    go_wp2_with fail
    go_loopw [4, 6] (fun v p wr => ∃ (m : Nat) (S' : Nat → Int) (a : Option Addr) (c : Nat), v = .slice a m c ∧ p = .int .i64 (it ps m k) ∧ wr.ownsRow (w.heap.size + 1) 3 1 (.slice a m c) m ((chain ps k m).map (Value.int .i64)) ∧
        RowF wr w.heap.size 5 n (fun i => .int .u8 (S' i)) ∧ Walk ps S S' k m ∧ Below w.heap.size w wr) (fun v _ _ => n - lenOf v)
    case atStart => exact ⟨0, S, a, c, rfl, rfl, hown, hR, Walk.start _ _ _, hB⟩
    case round =>
      obtain ⟨m, S', a', c', rfl, rfl, hown', hR', hW, hB'⟩ := hrel
      clear hown hR hB
      have HW : Hid (Walk ps S S' k m) := hW
      clear hW
      have hmn : m ≤ n := by have := HW.out.2.2.2; rw [HL.out] at this; omega
      have hqlt : it ps m k < n := by rw [← HL.out]; exact it_lt HF.out (by rw [HL.out]; omega) m
      by_cases hq : it ps m k < 0
      · -- the chain has ended at a root
        have HRT : Hid (Rooted ps (it ps m k)) := Rooted.neg hq
        have HEND : Hid (0 < m ∨ S k = 2) := by
          rcases Nat.eq_zero_or_pos m with h | h
          · subst h; exfalso; simp only [it] at hq; omega
          · exact .inl h
        obtain ⟨q, hqq⟩ : ∃ q, it ps m k = q := ⟨_, rfl⟩
        rw [hqq] at hq hqlt
        rw [hqq]
        clear hqq
        have HWI : Hid (Wiped ps S S' k m 0) := Wiped.start HW.out
        obtain ⟨wi, rfl⟩ : ∃ wi : World, wi = wr := ⟨_, rfl⟩
        go_wp2_with fail
        go_loopw [50] (fun i wr => ∃ (t : Nat) (T : Nat → Int), t ≤ m ∧ i = .int .i64 t ∧ wr.ownsRow (w.heap.size + 1) 3 1 (.slice a' m c') m ((chain ps k m).map (Value.int .i64)) ∧
            RowF wr w.heap.size 5 n (fun i => .int .u8 (T i)) ∧ Wiped ps S T k m t ∧ Below w.heap.size w wr) (fun i _ => m - (intOf i).toNat)
        case atStart => exact ⟨0, S', Nat.zero_le _, rfl, hown', hR', HWI.out, hB'⟩
        case round =>
          obtain ⟨t, T, ht, rfl, hown2, hR2, hWi, hB2⟩ := hrel
          clear hown' hR' hB'
          have HWI2 : Hid (Wiped ps S T k m t) := hWi
          clear hWi HWI
          by_cases htm : t < m
          · obtain ⟨g, hg, hgb⟩ := owns_some hown2 (by omega)
            subst hg
            have hin := HWI2.out.1 t htm
            obtain ⟨x, hx⟩ : ∃ x : Nat, it ps t k = x := ⟨(it ps t k).toNat, by omega⟩
            have hxn : x < n := by have := hin.2; rw [hx, HL.out] at this; omega
            have e1 : wr.cell? ⟨g, t, none⟩ = some (.int .i64 (x : Int)) := by
              rw [hown2.cellAt t (by omega), List.getElem?_map, chain_get ps k m t htm, hx]
              rfl
            have e2 : wr.cell? ⟨w.heap.size, x, none⟩ = some (.int .u8 (T x)) := hR2.cell hxn
            have e3 : wr.frozen? ⟨w.heap.size, x, none⟩ = false := hR2.free
            have HN : Hid (RowF (wr.setCell ⟨w.heap.size, x, none⟩ (.int .u8 2)) w.heap.size 5 n (fun i => .int .u8 (upd T x 2 i)) ∧ Wiped ps S (upd T x 2) k m (t + 1)) := by
              refine ⟨(hR2.set (j := x) (.int .u8 2)).congr (fun i _ => ?_), ?_⟩
              · unfold upd; split <;> rfl
              · have := HWI2.out.step htm
                rw [hx] at this
                simpa using this
            have HO : Hid ((wr.setCell ⟨w.heap.size, x, none⟩ (.int .u8 2)).ownsRow (w.heap.size + 1) 3 1 (.slice (some ⟨g, 0, none⟩) m c') m ((chain ps k m).map (Value.int .i64))) := ownsRow_setCell_below hown2 (by simp) _
            have hBB : Below w.heap.size w (wr.setCell ⟨w.heap.size, x, none⟩ (.int .u8 2)) := hB2.setCell (Nat.le_refl _) _
            have HBB : Hid (Below w.heap.size w (wr.setCell ⟨w.heap.size, x, none⟩ (.int .u8 2))) := hBB
            clear hx hin hR2 hown2 hB2 hBB
            go_wp2_with fail
            go_roundw
            case rel => exact ⟨t + 1, _, by omega, by go_num, HO.out, HN.out.1, HN.out.2, HBB.out⟩
            case measure => simp [intOf]; omega
          · obtain rfl : t = m := by omega
            have HGG : Hid (Good ps T (k + 1)) := HWI2.out.good HG.out (by rw [HL.out]; exact hlt) (HW.out.rooted HRT.out) HEND.out
            have HOO : Hid (wr.ownsRow (w.heap.size + 1) 3 1 (.slice a' 0 c') 0 []) := owns_cut0 hown2
            clear hown2
            go_wp2_with fail
            go_roundw
            case rel => exact ⟨k + 1, T, a', c', by omega, by go_num, rfl, HOO.out, hR2, HGG.out, hB2⟩
            case measure => simp [intOf]; omega
      · obtain ⟨q, hqq⟩ : ∃ q : Nat, it ps m k = q := ⟨(it ps m k).toNat, by omega⟩
        have hqn : q < n := by rw [hqq] at hqlt; omega
        have HQ : Hid (it ps m k = q) := hqq
        have e1 : wr.cell? ⟨w.heap.size, q, none⟩ = some (.int .u8 (S' q)) := hR'.cell hqn
        have e2 : wr.frozen? ⟨w.heap.size, q, none⟩ = false := hR'.free
        rw [hqq]
        clear hqq hqlt hq
        obtain ⟨st, hst⟩ : ∃ st, st = S' q := ⟨_, rfl⟩
        rw [← hst] at e1
        have HST : Hid (st = S' q) := hst
        clear hst
        by_cases hs0 : st = 0
        · subst hs0
          have hcnt : m < n := by
            have h1 := cnt_pos (S := S') (n := n) hqn HST.out.symm
            have h2 := HW.out.2.2.2
            rw [HL.out] at h2
            omega
          obtain ⟨b, off, hab, hcc⟩ := HZ.out.place hqn
          have hp : wr.cell? ⟨b, off + q, none⟩ = some (.int .i64 (ps.getD q (-1))) := by rw [hB'.cell (p := ⟨b, off + q, none⟩) (cell_block (hcc q hqn)), hcc q hqn]
          have HNX : Hid (it ps (m + 1) k = ps.getD q (-1)) := by
            show nx ps (it ps m k) = _
            rw [HQ.out, nx_pos (by omega)]
            rfl
          obtain ⟨y, hy⟩ : ∃ y, y = ps.getD q (-1) := ⟨_, rfl⟩
          rw [← hy] at hp
          have HY : Hid (it ps (m + 1) k = y) := by rw [hy]; exact HNX.out
          clear hy HNX
          subst hab
          have hbw : b < w.heap.size := cell_block (hcc q hqn)
          have HCC : Hid (RowF (wr.setCell ⟨w.heap.size, q, none⟩ (.int .u8 1)) w.heap.size 5 n (fun i => .int .u8 (upd S' q 1 i))) := by
            refine (hR'.set (j := q) (.int .u8 1)).congr (fun i _ => ?_)
            unfold upd; split <;> rfl
          have HWN : Hid (Walk ps S (upd S' q 1) k (m + 1)) := by
            have := HW.out.step (by rw [HQ.out]; omega) (by rw [HQ.out, HL.out]; omega) (by rw [HQ.out]; simpa using HST.out.symm)
            rw [HQ.out] at this
            unfold Hid
            simpa using this
          have ho1 : (wr.setCell ⟨w.heap.size, q, none⟩ (.int .u8 1)).ownsRow (w.heap.size + 1) 3 1 (.slice a' m c') m ((chain ps k m).map (Value.int .i64)) := ownsRow_setCell_below hown' (by simp) _
          have HO1 : Hid ((wr.setCell ⟨w.heap.size, q, none⟩ (.int .u8 1)).ownsRow (w.heap.size + 1) 3 1 (.slice a' m c') m ((chain ps k m).map (Value.int .i64))) := ho1
          have hsz : w.heap.size + 1 ≤ wr.heap.size := hR'.lt
          have HBB : Hid (Below w.heap.size w (wr.setCell ⟨w.heap.size, q, none⟩ (.int .u8 1))) := hB'.setCell (Nat.le_refl _) _
          have hpc : ∀ W, Below w.heap.size wr W → W.cell? ⟨b, off + q, none⟩ = some (.int .i64 y) := fun W hW => by rw [hW.cell (p := ⟨b, off + q, none⟩) hbw, hp]
          have HPC : Hid (∀ W, Below w.heap.size wr W → W.cell? ⟨b, off + q, none⟩ = some (.int .i64 y)) := hpc
          clear hcc ho1 hpc hp
          go_upto_region 10 with (at_builtin; refine wpList_append_one rfl _ _ rfl (w.heap.size + 1) _ m (chain ps k m) rfl (wr.setCell ⟨w.heap.size, q, none⟩ (.int .u8 1)) HO1.out (q : Int) rfl _ (by simp) rfl (by omega) (by simp; omega) ?_; intro a2 c2 w2 hown2 hb2)
          have hb3 : Below w.heap.size wr w2 := Below.trans (Below.setCell (Below.refl w.heap.size wr) (p := ⟨w.heap.size, q, none⟩) (Nat.le_refl _) (.int .u8 1)) (hb2.mono (by omega))
          have hp2 := HPC.out w2 hb3
          have HR2 : Hid (RowF w2 w.heap.size 5 n (fun i => .int .u8 (upd S' q 1 i))) := HCC.out.below hb2 (by omega)
          have HB2 : Hid (Below w.heap.size w w2) := HBB.out.trans (hb2.mono (by omega))
          have HO2 : Hid (w2.ownsRow (w.heap.size + 1) 3 1 (.slice a2 (m + 1) c2) (m + 1) ((chain ps k (m + 1)).map (Value.int .i64))) := by rw [chain_succ, HQ.out]; exact hown2
          clear hown2 hb2 hb3 hown' hR' hB' HBB HPC
          go_wp2_with fail
          go_roundw
          case rel => exact ⟨m + 1, _, a2, c2, rfl, by rw [HY.out], HO2.out, HR2.out, HWN.out, HB2.out⟩
          case measure => simp [lenOf]; omega
        by_cases hs1 : st = 1
        · subst hs1
          obtain ⟨j0, hrho, hjl, hje⟩ := HW.out.found HG.out.1 (by rw [HQ.out]; omega) (by rw [HQ.out, HL.out]; omega) (by rw [HQ.out]; simpa using HST.out.symm)
          have HFS : Hid (FirstSpec ps q) := by
            refine .inr ⟨k, j0, m, by rw [HL.out]; exact hlt, fun i hi => ?_, hrho, hjl, by rw [← HQ.out]; exact hje⟩
            rcases HG.out.1 i (by rw [HL.out]; omega) with h | ⟨_, h⟩
            · have := HG.out.2 i hi; omega
            · exact h
          clear hrho hjl hje
          go_wp2_with fail
          go_ret
          exact ⟨⟨q, rfl, HFS.out⟩, hB'⟩
        · have g0 : (st == 0) = false := by simpa using hs0
          have g1 : (st == 1) = false := by simpa using hs1
          have HS2 : Hid (S q = 2 ∧ Rooted ps q ∧ (0 < m ∨ S k = 2)) := by
            have hnot : ∀ b, b < m → it ps b k ≠ q := by
              intro b hb e
              have := (HW.out.1 b hb).2.2.2
              rw [e] at this
              simp only [Int.toNat_natCast] at this
              rw [← HST.out] at this
              exact hs1 this
            have hSq := HW.out.2.1 q (by rw [HL.out]; exact hqn) hnot
            rcases HG.out.1 q (by rw [HL.out]; exact hqn) with h | ⟨h, hr⟩
            · exfalso; apply hs0; rw [HST.out, hSq, h]
            · refine ⟨h, hr, ?_⟩
              rcases Nat.eq_zero_or_pos m with hm | hm
              · right
                subst hm
                have : (k : Int) = q := HQ.out
                have : k = q := by omega
                rw [this]; exact h
              · exact .inl hm
          have HRT : Hid (Rooted ps (it ps m k)) := by rw [HQ.out]; exact HS2.out.2.1
          have HEND : Hid (0 < m ∨ S k = 2) := HS2.out.2.2
          clear hs0 hs1 HST
          have HWI : Hid (Wiped ps S S' k m 0) := Wiped.start HW.out
          obtain ⟨wi, rfl⟩ : ∃ wi : World, wi = wr := ⟨_, rfl⟩
          go_wp2_with fail
          go_loopw [50] (fun i wr => ∃ (t : Nat) (T : Nat → Int), t ≤ m ∧ i = .int .i64 t ∧ wr.ownsRow (w.heap.size + 1) 3 1 (.slice a' m c') m ((chain ps k m).map (Value.int .i64)) ∧
              RowF wr w.heap.size 5 n (fun i => .int .u8 (T i)) ∧ Wiped ps S T k m t ∧ Below w.heap.size w wr) (fun i _ => m - (intOf i).toNat)
          case atStart => exact ⟨0, S', Nat.zero_le _, rfl, hown', hR', HWI.out, hB'⟩
          case round =>
            obtain ⟨t, T, ht, rfl, hown2, hR2, hWi, hB2⟩ := hrel
            clear hown' hR' hB'
            have HWI2 : Hid (Wiped ps S T k m t) := hWi
            clear hWi HWI
            by_cases htm : t < m
            · obtain ⟨g, hg, hgb⟩ := owns_some hown2 (by omega)
              subst hg
              have hin := HWI2.out.1 t htm
              obtain ⟨x, hx⟩ : ∃ x : Nat, it ps t k = x := ⟨(it ps t k).toNat, by omega⟩
              have hxn : x < n := by have := hin.2; rw [hx, HL.out] at this; omega
              have e1 : wr.cell? ⟨g, t, none⟩ = some (.int .i64 (x : Int)) := by
                rw [hown2.cellAt t (by omega), List.getElem?_map, chain_get ps k m t htm, hx]
                rfl
              have e2 : wr.cell? ⟨w.heap.size, x, none⟩ = some (.int .u8 (T x)) := hR2.cell hxn
              have e3 : wr.frozen? ⟨w.heap.size, x, none⟩ = false := hR2.free
              have HN : Hid (RowF (wr.setCell ⟨w.heap.size, x, none⟩ (.int .u8 2)) w.heap.size 5 n (fun i => .int .u8 (upd T x 2 i)) ∧ Wiped ps S (upd T x 2) k m (t + 1)) := by
                refine ⟨(hR2.set (j := x) (.int .u8 2)).congr (fun i _ => ?_), ?_⟩
                · unfold upd; split <;> rfl
                · have := HWI2.out.step htm
                  rw [hx] at this
                  simpa using this
              have HO : Hid ((wr.setCell ⟨w.heap.size, x, none⟩ (.int .u8 2)).ownsRow (w.heap.size + 1) 3 1 (.slice (some ⟨g, 0, none⟩) m c') m ((chain ps k m).map (Value.int .i64))) := ownsRow_setCell_below hown2 (by simp) _
              have hBB : Below w.heap.size w (wr.setCell ⟨w.heap.size, x, none⟩ (.int .u8 2)) := hB2.setCell (Nat.le_refl _) _
              have HBB : Hid (Below w.heap.size w (wr.setCell ⟨w.heap.size, x, none⟩ (.int .u8 2))) := hBB
              clear hx hin hR2 hown2 hB2 hBB
              go_wp2_with fail
              go_roundw
              case rel => exact ⟨t + 1, _, by omega, by go_num, HO.out, HN.out.1, HN.out.2, HBB.out⟩
              case measure => simp [intOf]; omega
            · obtain rfl : t = m := by omega
              have HGG : Hid (Good ps T (k + 1)) := HWI2.out.good HG.out (by rw [HL.out]; exact hlt) (HW.out.rooted HRT.out) HEND.out
              have HOO : Hid (wr.ownsRow (w.heap.size + 1) 3 1 (.slice a' 0 c') 0 []) := owns_cut0 hown2
              clear hown2
              go_wp2_with fail
              go_roundw
              case rel => exact ⟨k + 1, T, a', c', by omega, by go_num, rfl, HOO.out, hR2, HGG.out, hB2⟩
              case measure => simp [intOf]; omega

set_option maxHeartbeats 400000 in
theorem zzFirst_any (a0 : Option Addr) (n c0 : Nat) (ps : List Int) (w : World) (hz : HoldsI w a0 n ps) (hf : Fits ps) (hn : n ≤ 262144) :
    Calls Try.prog 12 #[.slice a0 n c0] w fun e w' => (∃ r : Int, e = .returned (.int .i64 r) ∧ FirstSpec ps r) ∧ Below w.heap.size w w' := by
  go_enter Try.func12, Try.ntmps12
  go_wp2_with (go_at_call 15; refine (first_any a0 n c0 ps _ hz hf hn).mono ?_; rintro e w' ⟨⟨r, rfl, hr⟩, hb⟩)
  go_ret
  exact ⟨⟨r, rfl, hr⟩, hb⟩

end Go.Proofs.Qxb6601261a
