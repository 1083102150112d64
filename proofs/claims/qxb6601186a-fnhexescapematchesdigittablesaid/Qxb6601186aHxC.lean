/-
  THE WALK of FnHexEscapeMatchesDigitTable.
-/
import Derived.Test.Qxb6601186aHxB
import Derived.Laws.CopyOwn
import Derived.Deep.DeepCutAuto
namespace Go.Proofs.Qxb6601186a
open Go.RowKit

theorem Try.info5 : (Try.prog.info? 5).map (fun i => (i.zero, i.size, i.bytes)) = some (some (.int .u8 0), 1, 1) := by kernel_rfl
theorem Try.size5 : (Try.prog.info? 5).map (·.size) = some 1 := by kernel_rfl

theorem cell_block {w : World} {a : Addr} {v : Value} (h : w.cell? a = some v) : a.block < w.heap.size := by
  unfold World.cell? at h
  by_cases hb : a.block < w.heap.size
  · exact hb
  · simp [Array.getElem?_eq_none (Nat.le_of_not_lt hb)] at h

theorem hexEscape_yes (a : Option Addr) (n c : Nat) (zs : List Int) (w : World) (hz : Holds8 w a n c zs) (h : escOk zs) :
    Calls Try.prog 39 #[.slice a n c] w fun e w' => e = .returned (.tuple #[.int .i32 (hv (dgt zs) 4), .bool true]) ∧ w' = w := by
  refine (hexEscape_any a n c zs w hz).mono ?_
  rintro e w' ⟨⟨-, he⟩ | ⟨h', -⟩, rfl⟩
  · exact ⟨he, rfl⟩
  · exact absurd h h'
theorem hexEscape_no (a : Option Addr) (n c : Nat) (zs : List Int) (w : World) (hz : Holds8 w a n c zs) (h : ¬ escOk zs) :
    Calls Try.prog 39 #[.slice a n c] w fun e w' => e = .returned (.tuple #[.int .i32 0, .bool false]) ∧ w' = w := by
  refine (hexEscape_any a n c zs w hz).mono ?_
  rintro e w' ⟨⟨h', -⟩ | ⟨-, he⟩, rfl⟩
  · exact absurd h' h
  · exact ⟨he, rfl⟩

set_option maxHeartbeats 400000 in
theorem zzHex_yes (a : Option Addr) (n c : Nat) (zs : List Int) (w : World) (hz : Holds8 w a n c zs) (h : Hid (escOk zs)) :
    Calls Try.prog 17 #[.slice a n c] w fun e w' => e = .returned (.tuple #[.int .i32 (hv (dgt zs) 4), .bool true]) ∧ w' = w := by
  go_enter Try.func17, Try.ntmps17
  go_wp2_with (go_at_call 39; refine (hexEscape_yes a n c zs _ hz h.out).mono ?_; rintro e w' ⟨rfl, rfl⟩)
  go_ret2
  exact ⟨rfl, rfl⟩
set_option maxHeartbeats 400000 in
theorem zzHex_no (a : Option Addr) (n c : Nat) (zs : List Int) (w : World) (hz : Holds8 w a n c zs) (h : Hid (¬ escOk zs)) :
    Calls Try.prog 17 #[.slice a n c] w fun e w' => e = .returned (.tuple #[.int .i32 0, .bool false]) ∧ w' = w := by
  go_enter Try.func17, Try.ntmps17
  go_wp2_with (go_at_call 39; refine (hexEscape_no a n c zs _ hz h.out).mono ?_; rintro e w' ⟨rfl, rfl⟩)
  go_ret2
  exact ⟨rfl, rfl⟩

theorem zzHex_at (a : Option Addr) (n c : Nat) (zs : List Int) (R : Int) (E : Bool) (w : World) (hz : Holds8 w a n c zs) (h : Hid ((escOk zs → R = hv (dgt zs) 4 ∧ E = true) ∧ (¬ escOk zs → R = 0 ∧ E = false))) :
    Calls Try.prog 17 #[.slice a n c] w fun e w' => e = .returned (.tuple #[.int .i32 R, .bool E]) ∧ w' = w := by
  by_cases hE : escOk zs
  · obtain ⟨rfl, rfl⟩ := h.out.1 hE
    exact zzHex_yes a n c zs w hz hE
  · obtain ⟨rfl, rfl⟩ := h.out.2 hE
    exact zzHex_no a n c zs w hz hE

/-- What the law sums up. -/
def wsum (D : Nat → Int) : Nat → Int
  | 0 => 0
  | j + 1 => wsum D j + D j * wt ((j : Int) + 2)
theorem wsum_four (D : Nat → Int) : wsum D 4 = hv D 4 := by simp [wsum, hv, wt]; omega
theorem prod_range (d : Int) (j : Nat) (h0 : 0 ≤ d) (h1 : d ≤ 15) : 0 ≤ d * wt ((j : Int) + 2) ∧ d * wt ((j : Int) + 2) ≤ 61440 := by
  have : wt ((j : Int) + 2) = 4096 ∨ wt ((j : Int) + 2) = 256 ∨ wt ((j : Int) + 2) = 16 ∨ wt ((j : Int) + 2) = 1 := by unfold wt; split <;> (try split) <;> (try split) <;> simp
  rcases this with h | h | h | h <;> rw [h] <;> omega
theorem wsum_range (D : Nat → Int) (hD : ∀ j, D j ≤ 15) (j : Nat) (h : okTo D j) (hj : j ≤ 4) : 0 ≤ wsum D j ∧ wsum D j ≤ 245760 := by
  match j, h, hj with
  | 0, _, _ => simp [wsum]
  | 1, h, _ => have := prod_range (D 0) 0 (h 0 (by omega)) (hD 0); simp [wsum] at this ⊢; omega
  | 2, h, _ =>
    have a0 := prod_range (D 0) 0 (h 0 (by omega)) (hD 0); have a1 := prod_range (D 1) 1 (h 1 (by omega)) (hD 1)
    simp [wsum] at a0 a1 ⊢; omega
  | 3, h, _ =>
    have a0 := prod_range (D 0) 0 (h 0 (by omega)) (hD 0); have a1 := prod_range (D 1) 1 (h 1 (by omega)) (hD 1); have a2 := prod_range (D 2) 2 (h 2 (by omega)) (hD 2)
    simp [wsum] at a0 a1 a2 ⊢; omega
  | 4, h, _ =>
    have a0 := prod_range (D 0) 0 (h 0 (by omega)) (hD 0); have a1 := prod_range (D 1) 1 (h 1 (by omega)) (hD 1); have a2 := prod_range (D 2) 2 (h 2 (by omega)) (hD 2); have a3 := prod_range (D 3) 3 (h 3 (by omega)) (hD 3)
    simp [wsum] at a0 a1 a2 a3 ⊢; omega

theorem okTo_succ {D : Nat → Int} {j : Nat} (h : okTo D j) (hd : 0 ≤ D j) : okTo D (j + 1) := by
  intro i hi
  by_cases e : i = j
  · subst e; exact hd
  · exact h i (by omega)
theorem okTo_not {D : Nat → Int} {j : Nat} (hj : j < 4) (hd : D j < 0) : ¬ okTo D 4 := by
  intro h
  have := h j hj
  omega
/-- Where the law's loop stands. -/
def Sums (D : Nat → Int) (j : Nat) (x : Int) (t : Bool) : Prop := (t = true → okTo D j ∧ x = wsum D j) ∧ (t = false → ¬ okTo D 4)
theorem Sums.bad {D : Nat → Int} {j : Nat} {x y : Int} {t : Bool} (_h : Sums D j x t) (hj : j < 4) (hd : D j < 0) : Sums D (j + 1) y false := ⟨fun h => (by cases h), fun _ => okTo_not hj hd⟩
theorem Sums.off {D : Nat → Int} {j : Nat} {x y : Int} (h : Sums D j x false) : Sums D (j + 1) y false := ⟨fun k => (by cases k), fun _ => h.2 rfl⟩
theorem Sums.on {D : Nat → Int} {j : Nat} {x : Int} (h : Sums D j x true) (hd : 0 ≤ D j) : Sums D (j + 1) (x + D j * wt ((j : Int) + 2)) true :=
  ⟨fun _ => ⟨okTo_succ (h.1 rfl).1 hd, by rw [(h.1 rfl).2]; rfl⟩, fun h => by cases h⟩

theorem row_of_owns {w : World} {base e n : Nat} {g cap : Nat} {xs : List Value} (h : w.ownsRow base e 1 (.slice (some ⟨g, 0, none⟩) n cap) n xs) (hc : cap = n) : w.heap[g]? = some (.cells xs.toArray e (0, 0)) := by
  rcases h.2 with ⟨h', -⟩ | ⟨g', cap', cur, h', -, hg, -, -, hcs, ht⟩
  · cases h'
  · simp only [Value.slice.injEq, Option.some.injEq, Addr.mk.injEq, and_true, true_and] at h'
    obtain ⟨rfl, rfl⟩ := h'
    rw [hg]
    have e : cur.toList = xs := by rw [← ht, List.take_of_length_le (by simp; omega)]
    have : cur = xs.toArray := by rw [← e]
    rw [this]

theorem splice_all {α : Type} (L cs : List α) (h : cs.length = L.length) : splice L 0 cs = cs := by
  unfold splice
  simp [h]

theorem neq27 (W : World) (a : Option Addr) (n c n' c' : Nat) : (binOp .neq 27 (.slice a n c) (.slice none n' c')).run Try.prog W = .ok (.bool (!a.isNone)) W := run_neq_slice_nil_any W _ _ a n c n' c' Try.underlying27

set_option maxHeartbeats 1600000 in
theorem hex_walk (a : Option Addr) (n c : Nat) (zs : List Int) (w : World) (hz : Holds8 w a n c zs) (hnil : a = none → n = 0 ∧ c = 0) :
    Calls Try.prog 6 #[.slice a n c] w fun e w' => e = .returned (.bool true) ∧ Below w.heap.size w w' := by
  obtain ⟨i, hi, hz0, hz1, hz2⟩ := info_parts Try.info5
  have hn63 : n ≤ maxLen := hz.2.2.1
  have hneq := neq27
  by_cases hbig : n ≤ 1048576
  · have hd : decide (n ≤ 1048576) = true := by simpa using hbig
    cases a with
    | none =>
      obtain ⟨rfl, rfl⟩ := hnil rfl
      have HE : Hid (¬ escOk zs) := by
        rintro ⟨h, -⟩
        unfold opensB at h
        simp at h
        have := hz.1
        omega
      go_enter Try.func6, Try.ntmps6
      go_wp2_with (first | (go_at_call 16; refine (hexBytes_any none 0 0 _ hn63).mono ?_; rintro e w' ⟨rfl, rfl⟩) | (go_at_call 17; refine (zzHex_no none 0 0 zs _ hz HE).mono ?_; rintro e w' ⟨rfl, rfl⟩))
      go_ret
      exact ⟨rfl, Below.refl _ _⟩
    | some ad =>
      have HI : Hid (i.bytes = 1) := hz2
      clear hz2
      go_enter Try.func6, Try.ntmps6
      go_upto_region 7 with (first | (go_at_call 16; refine (hexBytes_any (some ad) n c _ hn63).mono ?_; rintro e w' ⟨rfl, hw'⟩; rw [hw']; clear hw') | (at_make; refine wpList_make_full _ rfl _ _ 27 rfl w.heap.size 5 i (.int .u8 0) 1 Try.underlying27 hi hz0 hz1 _ _ _ _ n rfl rfl rfl rfl (by rw [HI.out]; omega) hn63 (Nat.le_refl _) ?_; intro w1 hown hgr))
      have hb1 : Below w.heap.size w w1 := (Below.refl _ _).grown hgr (Nat.le_refl _) (fun k h => by cases h)
      have hrow : w1.heap[w.heap.size]? = some (.cells (List.replicate n (Value.int .u8 0)).toArray 5 (0, 0)) := by
        have := row_of_owns hown rfl
        simpa [Value.cells, toList_madeCells_one] using this
      have HR : Hid (w1.heap[w.heap.size]? = some (.cells (List.replicate n (Value.int .u8 0)).toArray 5 (0, 0))) := hrow
      have HZ : Hid (Holds8 w (some ad) n c zs) := hz
      have HN : Hid (n ≤ maxLen) := hn63
      clear hrow hown hgr hz hn63
      have hsrc : 0 < (zs.map (Value.int .u8)).length → (some ⟨w.heap.size, 0, none⟩ : Option Addr) = some ⟨w.heap.size, 0, none⟩ ∧ ∃ ad', some ad = some ad' ∧ ∀ j v, (zs.map (Value.int .u8))[j]? = some v → w1.cell? (ad'.add j) = some v := by
        intro hp
        refine ⟨rfl, ad, rfl, fun j v hj => ?_⟩
        obtain ⟨hl, -, -, -, hc⟩ := HZ.out
        simp only [List.length_map] at hp
        rcases hc with h0 | ⟨b, off, hab, hc⟩
        · omega
        · simp only [Option.some.injEq] at hab
          subst hab
          have hjz : j < zs.length := by
            have := (List.getElem?_eq_some_iff.1 hj).1
            simpa using this
          have h1 := hc j (by omega)
          simp [hjz] at hj
          subst hj
          have e : (⟨b, off, none⟩ : Addr).add j = ⟨b, off + j, none⟩ := by unfold Addr.add; split <;> simp_all
          rw [e, hb1.cell (p := ⟨b, off + j, none⟩) (cell_block h1), h1]
          simp [List.getD, hjz]
      have HS : Hid _ := hsrc
      clear hsrc
      obtain ⟨cs, hcs⟩ : ∃ cs, cs = zs.map (Value.int .u8) := ⟨_, rfl⟩
      have hcl : cs.length = n := by rw [hcs, List.length_map]; exact HZ.out.1
      have HCS : Hid (cs = zs.map (Value.int .u8) ∧ cs.length = n) := ⟨hcs, hcl⟩
      have h1c : ∀ v ∈ cs, v.oneCell' = true := by
        intro v hv
        rw [hcs] at hv
        simp at hv
        obtain ⟨z, -, rfl⟩ := hv
        rfl
      have HO : Hid (∀ v ∈ cs, v.oneCell' = true) := h1c
      have HS' : Hid (0 < cs.length → (some ⟨w.heap.size, 0, none⟩ : Option Addr) = some ⟨w.heap.size, 0, none⟩ ∧ ∃ ad', some ad = some ad' ∧ ∀ j v, cs[j]? = some v → w1.cell? (ad'.add j) = some v) := by rw [hcs]; exact HS.out
      clear h1c hcl hcs HS
      go_upto_region 8 with (refine wpList_copy_splice rfl _ _ 27 27 rfl 5 Try.underlying27 Try.size5 _ _ _ _ _ _ rfl rfl w.heap.size 0 (List.replicate n (Value.int .u8 0)) 5 HR.out cs (by rw [HCS.out.2]; exact (Nat.min_self n).symm) HS'.out (by rw [HCS.out.2]; simp) HO.out w.heap.size w hb1 (Nat.le_refl _) ?_; intro w2 HG2 hB2)
      have HC : ∀ j, j < n → w2.cell? ⟨w.heap.size, j, none⟩ = some (.int .u8 (zs.getD j 0)) := by
        intro j hj
        have hg := HG2.out
        rw [splice_all _ _ (by rw [HCS.out.2]; simp), HCS.out.1] at hg
        rw [cell_of_row w2 w.heap.size j _ _ _ hg]
        have hjz : j < zs.length := by rw [HZ.out.1]; exact hj
        simp [List.getD, hjz]
      have H2 : Hid (Holds8 w2 (some ⟨w.heap.size, 0, none⟩) n n zs) := by
        obtain ⟨e1, -, e3, e4, -⟩ := HZ.out
        exact ⟨e1, Nat.le_refl _, e3, e4, .inr ⟨w.heap.size, 0, rfl, fun j hj => by rw [Nat.zero_add]; exact HC j hj⟩⟩
      have HCC : Hid (∀ j, j < n → w2.cell? ⟨w.heap.size, j, none⟩ = some (.int .u8 (zs.getD j 0))) := HC
      have HLN : Hid (zs.length = n) := HZ.out.1
      clear HC HG2 HCS HZ HR HS' HO HN hnil hi hz0 hz1 HI hneq
      by_cases hop : opensB zs = true
      · obtain ⟨⟨h6, h0⟩, h1⟩ : (6 ≤ n ∧ zs.getD 0 0 = 92) ∧ zs.getD 1 0 = 117 := by
          unfold opensB at hop
          rw [HLN.out] at hop
          simpa using hop
        have q0 : w2.cell? ⟨w.heap.size, 0, none⟩ = some (.int .u8 92) := by rw [← h0]; exact HCC.out 0 (by omega)
        have q1 : w2.cell? ⟨w.heap.size, 1, none⟩ = some (.int .u8 117) := by rw [← h1]; exact HCC.out 1 (by omega)
        have HOP : Hid (opensB zs = true) := hop
        clear hop h0 h1
        obtain ⟨R, E, hRE⟩ : ∃ R E, (escOk zs → R = hv (dgt zs) 4 ∧ E = true) ∧ (¬ escOk zs → R = 0 ∧ E = false) := by
          by_cases hE : escOk zs
          · exact ⟨_, _, fun _ => ⟨rfl, rfl⟩, fun h => absurd hE h⟩
          · exact ⟨_, _, fun h => absurd h hE, fun _ => ⟨rfl, rfl⟩⟩
        have HRE : Hid ((escOk zs → R = hv (dgt zs) 4 ∧ E = true) ∧ (¬ escOk zs → R = 0 ∧ E = false)) := hRE
        clear hRE
        obtain ⟨D, hD⟩ : ∃ D, D = dgt zs := ⟨_, rfl⟩
        have HD : Hid (D = dgt zs) := hD
        clear hD
        go_wp2_with (go_at_call 17; refine (zzHex_at _ _ _ zs R E _ H2.out HRE).mono ?_; rintro e w' ⟨rfl, hw'⟩; rw [hw']; clear hw')
        go_loop [6, 7, 8] (fun x t i => ∃ (j : Nat) (X : Int) (T : Bool), j ≤ 4 ∧ i = .int .i64 ((j : Int) + 2) ∧ x = .int .i32 X ∧ t = .bool T ∧ Sums D j X T) (fun _ _ i => 6 - (intOf i).toNat)
        case atStart => exact ⟨0, 0, true, by omega, rfl, rfl, rfl, ⟨fun _ => ⟨fun j h => by omega, rfl⟩, fun h => by cases h⟩⟩
        case round =>
          obtain ⟨j, X, T, hj, rfl, rfl, rfl, hS⟩ := hrel
          by_cases hlt : j < 4
          · obtain ⟨x, hx⟩ : ∃ x, x = zs.getD (2 + j) 0 := ⟨_, rfl⟩
            have q : w2.cell? ⟨w.heap.size, j + 2, none⟩ = some (.int .u8 x) := by rw [hx, Nat.add_comm 2 j]; exact HCC.out (j + 2) (by omega)
            obtain ⟨d, hdd⟩ : ∃ d, d = hexv x := ⟨_, rfl⟩
            have hdr := hexv_range x
            rw [← hdd] at hdr
            have HDJ : Hid (D j = d) := by rw [hdd, hx, HD.out]; rfl
            have DG : Hid (∀ W, Calls Try.prog 18 #[.int .u8 x] W fun e w' => e = .returned (.int .i64 d) ∧ w' = W) := by intro W; rw [hdd]; exact digit_any x W
            clear hx hdd
            by_cases hneg : d < 0
            · have HS : Hid (∀ y, Sums D (j + 1) y false) := fun y => hS.bad hlt (by rw [HDJ.out]; exact hneg)
              clear hS
              go_wp2_with (go_at_call 18; refine Calls.mono (DG.out _) ?_; rintro e w' ⟨rfl, hw'⟩; rw [hw']; clear hw')
              go_round
              case rel => exact ⟨j + 1, _, _, by omega, by go_num, rfl, rfl, HS.out _⟩
              case measure => simp [intOf]; omega
            · have hpr := prod_range d j (by omega) hdr.2
              cases T
              · have HS : Hid (∀ y, Sums D (j + 1) y false) := fun y => hS.off
                clear hS
                go_wp2_with (first | (go_at_call 18; refine Calls.mono (DG.out _) ?_; rintro e w' ⟨rfl, hw'⟩; rw [hw']; clear hw') | (go_at_call 19; refine (weight_any _ _).mono ?_; rintro e w' ⟨rfl, hw'⟩; rw [hw']; clear hw'))
                go_round
                case rel => exact ⟨j + 1, _, _, by omega, by go_num, rfl, rfl, HS.out _⟩
                case measure => simp [intOf]; omega
              · have HS : Hid (Sums D (j + 1) (X + d * wt ((j : Int) + 2)) true) := by
                  have := hS.on (by rw [HDJ.out]; omega)
                  rw [HDJ.out] at this
                  exact this
                have hXr : 0 ≤ X ∧ X ≤ 245760 := by
                  obtain ⟨h1, h2⟩ := hS.1 rfl
                  rw [h2]
                  exact wsum_range D (fun j => by rw [HD.out]; exact (hexv_range _).2) j h1 hj
                clear hS
                go_wp2_with (first | (go_at_call 18; refine Calls.mono (DG.out _) ?_; rintro e w' ⟨rfl, hw'⟩; rw [hw']; clear hw') | (go_at_call 19; refine (weight_any _ _).mono ?_; rintro e w' ⟨rfl, hw'⟩; rw [hw']; clear hw'))
                go_round
                case rel => exact ⟨j + 1, _, _, by omega, by go_num, rfl, rfl, HS.out⟩
                case measure => simp [intOf]; omega
          · obtain rfl : j = 4 := by omega
            cases T
            · have hno : ¬ escOk zs := fun h => hS.2 rfl (by rw [HD.out]; exact h.2)
              obtain ⟨rfl, rfl⟩ := HRE.out.2 hno
              clear hS hno
              go_wp2_with fail
              go_ret
              exact ⟨rfl, hB2⟩
            · have hyes : escOk zs := ⟨HOP.out, by have := (hS.1 rfl).1; rw [HD.out] at this; exact this⟩
              obtain ⟨hR, rfl⟩ := HRE.out.1 hyes
              have hXR : R = X := by rw [hR, (hS.1 rfl).2, wsum_four, HD.out]
              subst hXR
              clear hS hyes hR
              go_wp2_with fail
              go_ret
              exact ⟨ret_bool (by simp), hB2⟩
      · have HE : Hid (¬ escOk zs) := fun h => hop h.1
        by_cases h6 : 6 ≤ n
        · obtain ⟨x, hx⟩ : ∃ x, x = zs.getD 0 0 := ⟨_, rfl⟩
          obtain ⟨y, hy⟩ : ∃ y, y = zs.getD 1 0 := ⟨_, rfl⟩
          have q0 : w2.cell? ⟨w.heap.size, 0, none⟩ = some (.int .u8 x) := by rw [hx]; exact HCC.out 0 (by omega)
          have q1 : w2.cell? ⟨w.heap.size, 1, none⟩ = some (.int .u8 y) := by rw [hy]; exact HCC.out 1 (by omega)
          have hxy : (x == 92) = false ∨ ((x == 92) = true ∧ (y == 117) = false) := by
            unfold opensB at hop
            rw [HLN.out, ← hx, ← hy] at hop
            cases h : (x == 92)
            · exact .inl rfl
            · cases h' : (y == 117)
              · exact .inr ⟨rfl, rfl⟩
              · exfalso; apply hop; rw [h, h']; simpa using h6
          clear hx hy hop
          rcases hxy with h | ⟨h, h'⟩
          · go_wp2_with (go_at_call 17; refine (zzHex_no _ _ _ zs _ H2.out HE).mono ?_; rintro e w' ⟨rfl, hw'⟩; rw [hw']; clear hw')
            go_ret
            exact ⟨rfl, hB2⟩
          · go_wp2_with (go_at_call 17; refine (zzHex_no _ _ _ zs _ H2.out HE).mono ?_; rintro e w' ⟨rfl, hw'⟩; rw [hw']; clear hw')
            go_ret
            exact ⟨rfl, hB2⟩
        · clear hop
          go_wp2_with (go_at_call 17; refine (zzHex_no _ _ _ zs _ H2.out HE).mono ?_; rintro e w' ⟨rfl, hw'⟩; rw [hw']; clear hw')
          go_ret
          exact ⟨rfl, hB2⟩
  · have hd : decide (n ≤ 1048576) = false := by simpa using hbig
    go_enter Try.func6, Try.ntmps6
    go_wp2_with (go_at_call 16; refine (hexBytes_any a n c _ hn63).mono ?_; rintro e w' ⟨rfl, rfl⟩)
    go_ret
    exact ⟨rfl, Below.refl _ _⟩

end Go.Proofs.Qxb6601186a
