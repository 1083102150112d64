/-
  THE WALK of the law itself, FnMayHoldCaseTable.
-/
import Derived.Test.Qxb6600422aKvH
import Derived.Deep.RegionHeld3
import Derived.Deep.DeepCutAuto
namespace Go.Proofs.Qxb6600422a
open Go.RowKit

/-- The law's two boxed parameters lie at block N and N + 1. -/
def BoxAt (N : Nat) (set : Bool) (s : ByteArray) (ver : Int) (hm am : Bool) (a1 : Option Addr) (n1 c1 : Nat) (hn an : Bool) (a2 : Option Addr) (n2 c2 : Nat) (w : World) : Prop :=
  w.heap[N]? = some (.cells #[.bool set, .string s, .int .u64 ver] 24 (0, 0)) ∧ w.heap[N + 1]? = some (.cells #[.bool hm, .bool am, .slice a1 n1 c1, .bool hn, .bool an, .slice a2 n2 c2] 27 (0, 0))

section
variable {N : Nat} {set : Bool} {s : ByteArray} {ver : Int} {hm am : Bool} {a1 : Option Addr} {n1 c1 : Nat} {hn an : Bool} {a2 : Option Addr} {n2 c2 : Nat} {w w' : World}

theorem BoxAt.cells (h : BoxAt N set s ver hm am a1 n1 c1 hn an a2 n2 c2 w) :
    w.cell? ⟨N, 0, none⟩ = some (.bool set) ∧ w.cell? ⟨N, 1, none⟩ = some (.string s) ∧ w.cell? ⟨N, 2, none⟩ = some (.int .u64 ver) ∧
    w.cell? ⟨N + 1, 0, none⟩ = some (.bool hm) ∧ w.cell? ⟨N + 1, 1, none⟩ = some (.bool am) ∧ w.cell? ⟨N + 1, 2, none⟩ = some (.slice a1 n1 c1) ∧
    w.cell? ⟨N + 1, 3, none⟩ = some (.bool hn) ∧ w.cell? ⟨N + 1, 4, none⟩ = some (.bool an) ∧ w.cell? ⟨N + 1, 5, none⟩ = some (.slice a2 n2 c2) := by
  refine ⟨?_, ?_, ?_, ?_, ?_, ?_, ?_, ?_, ?_⟩
  all_goals first | (rw [blk_cell h.1]; rfl) | (rw [blk_cell h.2]; rfl)

theorem BoxAt.free (h : BoxAt N set s ver hm am a1 n1 c1 hn an a2 n2 c2 w) (j : Nat) : w.frozen? ⟨N + 1, j, none⟩ = false := blk_free h.2

theorem lt_of_blk {w : World} {b : Nat} {o : Obj} (h : w.heap[b]? = some o) : b < w.heap.size := (Array.getElem?_eq_some_iff.1 h).1

theorem BoxAt.below (h : BoxAt N set s ver hm am a1 n1 c1 hn an a2 n2 c2 w) (hb : Below w.heap.size w w') : BoxAt N set s ver hm am a1 n1 c1 hn an a2 n2 c2 w' :=
  ⟨(hb.block N (lt_of_blk h.1)).trans h.1, (hb.block (N + 1) (lt_of_blk h.2)).trans h.2⟩

theorem BoxAt.drew (h : BoxAt N set s ver hm am a1 n1 c1 hn an a2 n2 c2 w) : BoxAt N set s ver hm am a1 n1 c1 hn an a2 n2 c2 w.drew := h

theorem BoxAt.keep (h : BoxAt N set s ver hm am a1 n1 c1 hn an a2 n2 c2 w) (hb : Below w.drew.heap.size w.drew w') :
    w'.cell? ⟨N, 0, none⟩ = some (.bool set) ∧ w'.cell? ⟨N, 1, none⟩ = some (.string s) ∧ w'.cell? ⟨N, 2, none⟩ = some (.int .u64 ver) ∧
    w'.cell? ⟨N + 1, 0, none⟩ = some (.bool hm) ∧ w'.cell? ⟨N + 1, 1, none⟩ = some (.bool am) ∧ w'.cell? ⟨N + 1, 2, none⟩ = some (.slice a1 n1 c1) ∧
    w'.cell? ⟨N + 1, 3, none⟩ = some (.bool hn) ∧ w'.cell? ⟨N + 1, 4, none⟩ = some (.bool an) ∧ w'.cell? ⟨N + 1, 5, none⟩ = some (.slice a2 n2 c2) := (h.drew.below hb).cells
end

theorem Holds64.drew {w : World} {a : Option Addr} {n : Nat} {zs : List Int} (h : Holds64 w a n zs) : Holds64 w.drew a n zs := h
theorem len_of {w : World} {a : Option Addr} {n : Nat} {zs : List Int} (h : Holds64 w a n zs) (hn : n ≤ 131072) : zs.length ≤ 262144 := by rw [h.1]; omega

def put6 (w : World) (B : Nat) (hm am : Bool) (a1 : Option Addr) (n1 c1 : Nat) (hn an : Bool) (a2 : Option Addr) (n2 c2 : Nat) : World :=
  (((((w.setCell ⟨B, 0, none⟩ (.bool hm)).setCell ⟨B, 1, none⟩ (.bool am)).setCell ⟨B, 2, none⟩ (.slice a1 n1 c1)).setCell ⟨B, 3, none⟩ (.bool hn)).setCell ⟨B, 4, none⟩ (.bool an)).setCell ⟨B, 5, none⟩ (.slice a2 n2 c2)

theorem BoxAt.put6 {N : Nat} {set : Bool} {s : ByteArray} {ver : Int} {hm am : Bool} {a1 : Option Addr} {n1 c1 : Nat} {hn an : Bool} {a2 : Option Addr} {n2 c2 : Nat} {w : World} {a1' a2' : Option Addr} {c1' c2' : Nat}
    (h : BoxAt N set s ver hm am a1 n1 c1 hn an a2 n2 c2 w) : BoxAt N set s ver hm am a1' n1 c1' hn an a2' n2 c2' (put6 w (N + 1) hm am a1' n1 c1' hn an a2' n2 c2') := by
  unfold BoxAt Qxb6600422a.put6
  refine ⟨?_, ?_⟩
  · iterate 6 rw [Below.heap_setCell _ _ _ _ (by simp)]
    exact h.1
  · have g1 := heap_setCell_same w (N + 1) 0 _ _ (.bool hm) h.2
    have g2 := heap_setCell_same _ (N + 1) 1 _ _ (.bool am) g1
    have g3 := heap_setCell_same _ (N + 1) 2 _ _ (.slice a1' n1 c1') g2
    have g4 := heap_setCell_same _ (N + 1) 3 _ _ (.bool hn) g3
    have g5 := heap_setCell_same _ (N + 1) 4 _ _ (.bool an) g4
    have g6 := heap_setCell_same _ (N + 1) 5 _ _ (.slice a2' n2 c2') g5
    rw [g6]; rfl

theorem below_put6 {N B : Nat} {hm am : Bool} {a1 : Option Addr} {n1 c1 : Nat} {hn an : Bool} {a2 : Option Addr} {n2 c2 : Nat} {w w' : World} (h : Below N w w') (hB : N ≤ B) : Below N w (put6 w' B hm am a1 n1 c1 hn an a2 n2 c2) := by
  unfold put6
  iterate 6 refine Below.setCell ?_ hB _
  exact h

theorem Holds64.put6 {B : Nat} {hm am : Bool} {a1 : Option Addr} {n1 c1 : Nat} {hn an : Bool} {a2 : Option Addr} {n2 c2 : Nat} {w : World} {a : Option Addr} {n : Nat} {zs : List Int} (h : Holds64 w a n zs) (hne : ∀ x, a = some x → x.block ≠ B) :
    Holds64 (put6 w B hm am a1 n1 c1 hn an a2 n2 c2) a n zs := by
  unfold Qxb6600422a.put6
  iterate 6 refine Holds64.setCell ?_ hne _
  exact h

theorem tooBig_yes {n1 n2 : Nat} (h : 131072 < n1 ∨ 131072 < n2) : tooBigB n1 n2 = true := by unfold tooBigB; simp; omega
theorem tooBig_no {n1 n2 : Nat} (h : ¬ (131072 < n1 ∨ 131072 < n2)) : tooBigB n1 n2 = false := by unfold tooBigB; simp; omega

set_option maxHeartbeats 1600000 in
theorem walk (set : Bool) (s : ByteArray) (ver : Int) (hm am : Bool) (a1 : Option Addr) (n1 c1 : Nat) (ms : List Int) (hn an : Bool) (a2 : Option Addr) (n2 c2 : Nat) (ns : List Int) (w : World)
    (hs : s.size ≤ maxLen) (h1 : Holds64 w a1 n1 ms) (h2 : Holds64 w a2 n2 ns) (s1 : Shaped a1 n1 c1) (s2 : Shaped a2 n2 c2) :
    Calls Try.prog 3 #[.agg #[.bool set, .string s, .int .u64 ver], .agg #[.bool hm, .bool am, .slice a1 n1 c1, .bool hn, .bool an, .slice a2 n2 c2]] w fun e w' => e = .returned (.bool true) ∧ Below w.heap.size w w' := by
  have HS : Hid (s.size ≤ maxLen) := hs
  have HM1 : Hid (n1 ≤ 9223372036854775807) := h1.2.1
  have HM2 : Hid (n2 ≤ 9223372036854775807) := h2.2.1
  have BX0 : Hid (BoxAt w.heap.size set s ver hm am a1 n1 c1 hn an a2 n2 c2 ((w.alloc (.cells #[.bool set, .string s, .int .u64 ver] 24)).alloc (.cells #[.bool hm, .bool am, .slice a1 n1 c1, .bool hn, .bool an, .slice a2 n2 c2] 27))) := blk_two w _ _ _ _
  have BW0 : Hid (Below w.heap.size w ((w.alloc (.cells #[.bool set, .string s, .int .u64 ver] 24)).alloc (.cells #[.bool hm, .bool am, .slice a1 n1 c1, .bool hn, .bool an, .slice a2 n2 c2] 27))) := ((Below.refl _ _).alloc (Nat.le_refl _) _).alloc (by simp) _
  unfold maxLen at hs
  by_cases hbig : 1048576 < s.size + n1 + n2
  · have hno := bytes_no hbig
    go_enter Try.func3, Try.ntmps3
    go_wp2_with fail
    refine (bytes_any set s ver hm am a1 n1 c1 hn an a2 n2 c2 _ HS.out HM1.out HM2.out).mono ?_
    rintro e w1 ⟨rfl, hb⟩
    go_wp2_with fail
    go_ret
    exact ⟨rfl, BW0.out.trans (hb.mono BW0.out.size)⟩
  have hyes := bytes_yes (Nat.le_of_not_lt hbig)
  go_enter Try.func3, Try.ntmps3
  go_wp2_with fail
  refine (bytes_any set s ver hm am a1 n1 c1 hn an a2 n2 c2 _ HS.out HM1.out HM2.out).mono ?_
  rintro e w1 ⟨rfl, hb⟩
  have BX1 : Hid (BoxAt w.heap.size set s ver hm am a1 n1 c1 hn an a2 n2 c2 w1) := BX0.out.below hb
  have BW1 : Hid (Below w.heap.size w w1) := BW0.out.trans (hb.mono BW0.out.size)
  clear hb BX0 BW0
  obtain ⟨k0, k1, k2, k3, k4, k5, k6, k7, k8⟩ := BX1.out.cells
  have hs' : s.size ≤ 1048576 := by omega
  by_cases htb : 131072 < n1 ∨ 131072 < n2
  · have HT : Hid (tooBigB n1 n2 = true) := tooBig_yes htb
    clear htb
    go_wp2_with fail
    refine (tooBig_any hm am a1 n1 c1 hn an a2 n2 c2 _).mono ?_
    rintro e w2 ⟨rfl, hb⟩
    rw [HT.out]
    go_wp2_with fail
    go_ret
    exact ⟨rfl, BW1.out.trans (hb.mono BW1.out.size)⟩
  have HT : Hid (tooBigB n1 n2 = false) := tooBig_no htb
  have ht1 : n1 ≤ 131072 := by omega
  have ht2 : n2 ≤ 131072 := by omega
  clear htb
  go_wp2_with fail
  refine (tooBig_any hm am a1 n1 c1 hn an a2 n2 c2 _).mono ?_
  rintro e w2 ⟨rfl, hb⟩
  rw [HT.out]
  have BX2 : Hid (BoxAt w.heap.size set s ver hm am a1 n1 c1 hn an a2 n2 c2 w2) := BX1.out.below hb
  have BW2 : Hid (Below w.heap.size w w2) := BW1.out.trans (hb.mono BW1.out.size)
  clear hb BX1 BW1 k0 k1 k2 k3 k4 k5 k6 k7 k8
  obtain ⟨k0, k1, k2, k3, k4, k5, k6, k7, k8⟩ := BX2.out.cells
  go_wp2_with fail
  clear hyes
  go_region_held3 (fun W => W.cell? ⟨w.heap.size, 0, none⟩ = some (.bool set) ∧ W.cell? ⟨w.heap.size, 1, none⟩ = some (.string s) ∧ W.cell? ⟨w.heap.size, 2, none⟩ = some (.int .u64 ver) ∧
      W.cell? ⟨w.heap.size + 1, 0, none⟩ = some (.bool hm) ∧ W.cell? ⟨w.heap.size + 1, 1, none⟩ = some (.bool am) ∧ W.cell? ⟨w.heap.size + 1, 2, none⟩ = some (.slice a1 n1 c1) ∧
      W.cell? ⟨w.heap.size + 1, 3, none⟩ = some (.bool hn) ∧ W.cell? ⟨w.heap.size + 1, 4, none⟩ = some (.bool an) ∧ W.cell? ⟨w.heap.size + 1, 5, none⟩ = some (.slice a2 n2 c2))
    (first | exact BX2.out.keep hb3 | exact BX2.out.drew.cells)
    (first | (go_at_call 11; refine (condBytes_any hm am a1 n1 c1 hn an a2 n2 c2 _ ht1 ht2).mono ?_; rintro e w3 ⟨rfl, hb3⟩))
  have BX3 : Hid (BoxAt w.heap.size set s ver hm am a1 n1 c1 hn an a2 n2 c2 w3) := BX2.out.drew.below hb3
  have BW3 : Hid (Below w.heap.size w w3) := BW2.out.drew.trans (hb3.mono BW2.out.size)
  clear BX2 BW2 k0 k1 k2 k3 k4 k5 k6 k7 k8
  clear hb3
  obtain ⟨k0, k1, k2, k3, k4, k5, k6, k7, k8⟩ := BX3.out.cells
  have HHs : Hid (s.size ≤ 1048576) := hs'
  by_cases hsum : 1048576 < IntKind.i64.wrap ((s.size : Int) + (8 * (n1 : Int) + 8 * (n2 : Int)))
  · go_wp2_with fail
    go_ret
    exact ⟨rfl, BW3.out⟩
  have HTP : Hid (∀ W, Below w.heap.size w W → Calls Try.prog 12 #[.agg #[.bool hm, .bool am, .slice a1 n1 c1, .bool hn, .bool an, .slice a2 n2 c2]] W fun e w' => e = .returned (.bool (listsTopB hm ms hn ns)) ∧ Below W.heap.size W w') :=
    fun W hW => listsTop_any hm am a1 n1 c1 ms hn an a2 n2 c2 ns W (h1.below hW) (h2.below hW)
  have H1 : Hid (Holds64 w a1 n1 ms) := h1
  have H2 : Hid (Holds64 w a2 n2 ns) := h2
  have HNT : set = true → (ver == 0) = true → listsTopB hm ms hn ns = true ∨ listsTopB hm ms hn ns = false := fun _ _ => by cases listsTopB hm ms hn ns <;> simp
  clear h1 h2
  by_cases htop : set = true ∧ (ver == 0) = true ∧ listsTopB hm ms hn ns = true
  · obtain ⟨rfl, hv, ht⟩ := htop
    have HTT : Hid (listsTopB hm ms hn ns = true) := ht
    clear ht HNT
    go_wp2_with fail
    refine Calls.mono (HTP.out _ BW3.out) ?_
    rintro e w4 ⟨rfl, hb⟩
    rw [HTT.out]
    go_wp2_with fail
    go_ret
    exact ⟨rfl, BW3.out.trans (hb.mono BW3.out.size)⟩
  have HR : Hid (set = true → (ver == 0) = true → ∀ z ∈ gat hm ms hn ns 2, 0 ≤ z ∧ z ≤ 18446744073709551614) := by
    intro e1 e2
    exact gat_range hm ms hn ns H1.out.2.2.1 H2.out.2.2.1 (by cases hh : listsTopB hm ms hn ns <;> simp_all)
  clear HNT
  have HW : (set = false) ∨ (set = true ∧ (ver == 0) = false) ∨ (set = true ∧ (ver == 0) = true ∧ listsTopB hm ms hn ns = false) := by
    cases set <;> cases hv : (ver == 0) <;> cases hh : listsTopB hm ms hn ns <;> simp_all
  clear htop
  go_upto_region 7 with fail
  go_cut [35] (fun t W => t = .bool false ∧ BoxAt w.heap.size set s ver hm am a1 n1 c1 hn an a2 n2 c2 W ∧ Below w.heap.size w W)
  case first =>
    rcases HW with rfl | ⟨rfl, hv⟩ | ⟨rfl, hv, ht⟩
    · go_wp2_with fail
      go_meet
      case rel => exact ⟨rfl, BX3.out, BW3.out⟩
    · go_wp2_with fail
      go_meet
      case rel => exact ⟨rfl, BX3.out, BW3.out⟩
    · have HTT : Hid (listsTopB hm ms hn ns = false) := ht
      clear ht
      go_wp2_with fail
      refine Calls.mono (HTP.out _ BW3.out) ?_
      rintro e w4 ⟨rfl, hb⟩
      rw [HTT.out]
      go_wp2_with fail
      go_meet
      case rel => exact ⟨rfl, BX3.out.below hb, BW3.out.trans (hb.mono BW3.out.size)⟩
  case rest =>
    obtain ⟨rfl, BX4, BW4⟩ := hcut
    clear BX3 BW3 k0 k1 k2 k3 k4 k5 k6 k7 k8 HW HTP
    have hN : w.heap.size + 1 < wc.heap.size := lt_of_blk BX4.2
    obtain ⟨k0, k1, k2, k3, k4, k5, k6, k7, k8⟩ := BX4.cells
    have BX4' : Hid _ := BX4
    have BW4' : Hid _ := BW4
    clear BX4
    go_wp2_with fail
    refine (cloneCond_any hm am a1 n1 c1 ms hn an a2 n2 c2 ns _ (H1.out.below BW4) (H2.out.below BW4) s1 s2 (by omega) (by omega)).mono ?_
    rintro e w5 ⟨a1', c1', a2', c2', rfl, K1, T1, F1, K2, T2, F2, hb5⟩
    have BX5 : BoxAt w.heap.size set s ver hm am a1 n1 c1 hn an a2 n2 c2 w5 := BoxAt.below BX4'.out hb5
    have BW5 := BW4.trans (hb5.mono BW4.size)
    clear k0 k1 k2 k3 k4 k5 k6 k7 k8
    obtain ⟨W6, hW6⟩ : ∃ W6, W6 = put6 w5 (w.heap.size + 1) hm am a1' n1 c1' hn an a2' n2 c2' := ⟨_, rfl⟩
    have BX6 : Hid (BoxAt w.heap.size set s ver hm am a1' n1 c1' hn an a2' n2 c2' W6) := by rw [hW6]; exact BX5.put6
    have BW6 : Hid (Below w.heap.size w W6) := by rw [hW6]; exact below_put6 BW5 (by omega)
    have K16 : Hid (Holds64 W6 a1' n1 ms) := by rw [hW6]; exact K1.put6 (fun x hx => by have := F1 x hx; omega)
    have K26 : Hid (Holds64 W6 a2' n2 ns) := by rw [hW6]; exact K2.put6 (fun x hx => by have := F2 x hx; omega)
    have HW6 : Hid (W6 = _) := hW6
    clear hW6
    obtain ⟨k0, k1, k2, k3, k4, k5, k6, k7, k8⟩ := BX5.cells
    have kf := BX5.free
    clear BX4' BW4' BX5 K1 K2 F1 F2 hb5 BW4 BW5
    go_wp2_with fail
    clear k0 k1 k2 k3 k4 k5 k6 k7 k8 kf
    rw [show (((((w5.setCell ⟨w.heap.size + 1, 0, none⟩ (.bool hm)).setCell ⟨w.heap.size + 1, 1, none⟩ (.bool am)).setCell ⟨w.heap.size + 1, 2, none⟩ (.slice a1' n1 c1')).setCell ⟨w.heap.size + 1, 3, none⟩ (.bool hn)).setCell ⟨w.heap.size + 1, 4, none⟩ (.bool an)).setCell ⟨w.heap.size + 1, 5, none⟩ (.slice a2' n2 c2') = W6 from HW6.out.symm]
    clear HW6 HT HS HM1 HM2
    obtain ⟨k0, k1, k2, k3, k4, k5, k6, k7, k8⟩ := BX6.out.cells
    go_region_held3 (fun W => W.cell? ⟨w.heap.size, 0, none⟩ = some (.bool set) ∧ W.cell? ⟨w.heap.size, 1, none⟩ = some (.string s) ∧ W.cell? ⟨w.heap.size, 2, none⟩ = some (.int .u64 ver) ∧
        W.cell? ⟨w.heap.size + 1, 0, none⟩ = some (.bool hm) ∧ W.cell? ⟨w.heap.size + 1, 1, none⟩ = some (.bool am) ∧ W.cell? ⟨w.heap.size + 1, 2, none⟩ = some (.slice a1' n1 c1') ∧
        W.cell? ⟨w.heap.size + 1, 3, none⟩ = some (.bool hn) ∧ W.cell? ⟨w.heap.size + 1, 4, none⟩ = some (.bool an) ∧ W.cell? ⟨w.heap.size + 1, 5, none⟩ = some (.slice a2' n2 c2'))
      (first | exact ((BX6.out.drew.below hb7).below hb8).cells | exact BX6.out.keep hb7 | exact BX6.out.drew.cells)
      (first | (go_at_call 15; refine (condition_any hm am a1' n1 c1' ms hn an a2' n2 c2' ns _ K16.out.drew K26.out.drew T1 T2).mono ?_; rintro e w7 ⟨p1, p2, rfl, M1, M2, hb7⟩) | (go_at_call 14; refine (zzMayHold_any set s ver hm am ms p1 hn an ns p2 _ M1 M2 (len_of K16.out ht1) (len_of K26.out ht2) HR).mono ?_; rintro e w8 ⟨rfl, hb8⟩))
    have BX8 : Hid (BoxAt w.heap.size set s ver hm am a1' n1 c1' hn an a2' n2 c2' w8) := (BX6.out.drew.below hb7).below hb8
    have BW8 : Hid (Below w.heap.size w w8) := (BW6.out.drew.trans (hb7.mono BW6.out.size)).trans (hb8.mono (Nat.le_trans BW6.out.size hb7.size))
    have K18 : Hid (Holds64 w8 a1' n1 ms) := (K16.out.drew.below hb7).below hb8
    have K28 : Hid (Holds64 w8 a2' n2 ns) := (K26.out.drew.below hb7).below hb8
    clear BX6 BW6 K16 K26 k0 k1 k2 k3 k4 k5 k6 k7 k8
    clear hb7 hb8 M1 M2
    obtain ⟨k0, k1, k2, k3, k4, k5, k6, k7, k8⟩ := BX8.out.cells
    rw [law]
    go_wp2_with fail
    refine (model_any set s ver hm am a1' n1 c1' ms hn an a2' n2 c2' ns _ K18.out K28.out).mono ?_
    rintro e w9 ⟨rfl, hb9⟩
    go_wp2_with fail
    go_ret
    exact ⟨ret_bool (by simp), BW8.out.trans (hb9.mono BW8.out.size)⟩

end Go.Proofs.Qxb6600422a
