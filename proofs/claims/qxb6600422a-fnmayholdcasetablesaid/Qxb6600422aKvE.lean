/-
  THE WALKS, part E: memory of the call's own: a law for 'append(own, held...)', zzCloneU64, zzCloneCond.
-/
import Derived.Test.Qxb6600422aKvD
import Derived.Laws.AppendOwnNone
namespace Go.Proofs.Qxb6600422a
open Go.RowKit

theorem Try.info22 : (Try.prog.info? 22).map (fun i => (i.zero, i.size, i.bytes)) = some (some (.int .u64 0), 1, 8) := by kernel_rfl

theorem owns_block {w : World} {base e size n : Nat} {v : Value} {xs : List Value} (h : w.ownsRow base e size v n xs) : ∀ k, v.ownBlock = some k → base ≤ k := by
  rcases h.2 with ⟨rfl, -⟩ | ⟨g, cap, cur, rfl, hb, -⟩
  · intro k hk; simp [Value.ownBlock] at hk
  · intro k hk; simp [Value.ownBlock] at hk; omega

/-- It lies in a block from 'base' on. -/
def FreshFrom (base : Nat) (a : Option Addr) : Prop := ∀ x, a = some x → base ≤ x.block

/-- A row of the call's own as a slice that holds numbers. -/
theorem held_of_owns {w : World} {base n : Nat} {v : Value} {zs : List Int} (h : w.ownsRow base 22 1 v n (zs.map (Value.int .u64))) (hmax : n ≤ 9223372036854775807) (hz : ∀ z ∈ zs, 0 ≤ z ∧ z ≤ 18446744073709551615) :
    ∃ a c, v = .slice a n c ∧ Holds64 w a n zs ∧ Shaped a n c ∧ FreshFrom base a := by
  have hl : zs.length = n := by have := h.1; simpa using this
  rcases h.2 with ⟨rfl, rfl⟩ | ⟨g, cap, cur, rfl, hb, r⟩
  · exact ⟨none, 0, rfl, ⟨hl, hmax, hz, .inl rfl⟩, fun _ => ⟨rfl, rfl⟩, fun _ h => (by cases h)⟩
  · refine ⟨some ⟨g, 0, none⟩, cap, rfl, ⟨hl, hmax, hz, .inr ⟨g, 0, rfl, fun i hi => ?_⟩⟩, fun h => (by cases h), fun x h => (by cases h; exact hb)⟩
    have := h.cellAt i (by omega)
    rw [Nat.zero_add, this]
    have hi' : i < zs.length := by omega
    simp [List.getD, hi']

theorem wpList_append_held {w : World} {ops : Array Oper} {rest : List Oper} {o : Oper} {a : Act} {Q : Exit → Act → World → Prop} (hgd : o.guard = none) (s x : Operand)
    (ho : o.op = .call { callee := .builtin .append, args := #[s, x], argTypes := #[25, 25] })
    (base : Nat) (v : Value) (n : Nat) (xs : List Value) (hs : a.eval s = v) (hown : w.ownsRow base 22 1 v n xs)
    (ad : Option Addr) (m c : Nat) (zs : List Int) (hx : a.eval x = .slice ad m c) (hz : Holds64 w ad m zs) (hsh : Shaped ad m c)
    (h63 : n + m ≤ 1048576) (hbase : base ≤ w.heap.size)
    (h : ∀ v' w', w'.ownsRow base 22 1 v' (n + m) (xs ++ zs.map (Value.int .u64)) → Below base w w' → wpList Try.prog ops Q rest (a.put o.dst v') w') : wpList Try.prog ops Q (o :: rest) a w := by
  obtain ⟨i, hi, hz0, hz1, hz2⟩ := info_parts Try.info22
  cases ad with
  | none =>
    obtain ⟨rfl, rfl⟩ := hsh rfl
    obtain ⟨hl, -, -, -⟩ := hz
    obtain rfl : zs = [] := by simpa using hl
    refine wpList_append_own_none hgd s x 25 ho base 22 i 1 Try.underlying25 hi v n xs hs hown hx ?_
    exact h v w (by simpa using hown) (Below.refl _ _)
  | some ad =>
    obtain ⟨hl, hmax, -, hc⟩ := hz
    refine wpList_append_own w hgd s x 25 ho base 22 i (.int .u64 0) 1 8 Try.underlying25 hi hz0 hz1 hz2 rfl (by decide) v n xs hs hown ad m c (zs.map (Value.int .u64)) hx (by simpa using hl) ?_ ?_ (by unfold maxLen; omega) (by omega) hbase ?_
    · intro j u hj
      rcases hc with rfl | ⟨b, off, hb, hc⟩
      · obtain rfl : zs = [] := by simpa using hl
        simp at hj
      · simp only [Option.some.injEq] at hb
        subst hb
        have hjz : j < zs.length := by
          have := (List.getElem?_eq_some_iff.1 hj).1
          simpa using this
        have := hc j (by omega)
        simp [hjz] at hj
        subst hj
        have e : (⟨b, off, none⟩ : Addr).add j = ⟨b, off + j, none⟩ := by unfold Addr.add; split <;> simp_all
        rw [e]
        simpa [List.getD, hjz] using this
    · intro u hu
      simp at hu
      obtain ⟨z, -, rfl⟩ := hu
      rfl
    · intro v' w' ho' hg _
      exact h v' w' ho' ((Below.refl _ _).grown hg hbase (owns_block hown))

theorem fill_step (zs : List Int) (n k : Nat) (hk : k < zs.length) (hn : zs.length = n) :
    (((zs.take k).map (Value.int .u64)) ++ List.replicate (n - k) (Value.int .u64 0)).set k (Value.int .u64 zs[k]) = ((zs.take (k + 1)).map (Value.int .u64)) ++ List.replicate (n - (k + 1)) (Value.int .u64 0) := by
  apply List.ext_getElem?
  intro i
  have e1 : min k zs.length = k := by omega
  have e2 : min (k + 1) zs.length = k + 1 := by omega
  rw [List.getElem?_set]
  simp only [List.length_append, List.length_map, List.length_take, List.length_replicate, List.getElem?_append, List.getElem?_map, List.getElem?_take, List.getElem?_replicate, e1, e2]
  rcases Nat.lt_trichotomy i k with h | h | h
  · rw [if_neg (by omega), if_pos (by omega), if_pos (by omega), if_pos (by omega), if_pos (by omega)]
  · subst h
    rw [if_pos rfl, if_pos (by omega), if_pos (by omega), if_pos (by omega)]
    simp [hk]
  · have a1 : ¬ k = i := by omega
    have a2 : ¬ i < k := by omega
    have a3 : (i - k < n - k) = (i < n) := propext ⟨fun _ => by omega, fun _ => by omega⟩
    have a4 : ¬ i < k + 1 := by omega
    have a5 : (i - (k + 1) < n - (k + 1)) = (i < n) := propext ⟨fun _ => by omega, fun _ => by omega⟩
    simp only [a1, a2, a3, a4, a5, if_false]

theorem fill_at (zs : List Int) (n k : Nat) (hk : k < n) (hn : zs.length = n) :
    (((zs.take k).map (Value.int .u64)) ++ List.replicate (n - k) (Value.int .u64 0))[k]? = some (Value.int .u64 0) := by
  simp only [List.getElem?_append, List.length_map, List.length_take, List.getElem?_replicate]
  rw [if_neg (by omega), if_pos (by omega)]

theorem nil25 (W : World) (a : Option Addr) (n c n' c' : Nat) : (binOp .eql 25 (.slice a n c) (.slice none n' c')).run Try.prog W = .ok (.bool a.isNone) W := Lib.run_eql_slice_nil W _ _ a n c n' c' Try.underlying25

set_option maxHeartbeats 800000 in
theorem clone_any (a : Option Addr) (n c : Nat) (zs : List Int) (w : World) (hz : Holds64 w a n zs) (hsh : Shaped a n c) (hsm : n ≤ 1048576) :
    Calls Try.prog 26 #[.slice a n c] w fun e w' => ∃ a' c', e = .returned (.slice a' n c') ∧ Holds64 w' a' n zs ∧ Shaped a' n c' ∧ FreshFrom w.heap.size a' ∧ Below w.heap.size w w' := by
  obtain ⟨i, hi, hz0, hz1, hz2⟩ := info_parts Try.info22
  have hnil := nil25
  have H0 := hz
  cases a with
  | none =>
    obtain ⟨rfl, rfl⟩ := hsh rfl
    clear hz
    go_enter Try.func26, Try.ntmps26
    go_wp2
    go_ret
    exact ⟨none, 0, rfl, H0, fun _ => ⟨rfl, rfl⟩, fun _ h => (by cases h), Below.refl _ _⟩
  | some ad =>
    obtain ⟨hlen, hmax, hr, hc⟩ := hz
    have HL : Hid (zs.length = n) := hlen
    have HC : Hid (n = 0 ∨ ∃ b off, some ad = some ⟨b, off, none⟩ ∧ ∀ i, i < n → w.cell? ⟨b, off + i, none⟩ = some (.int .u64 (zs.getD i 0))) := hc
    have HI : Hid (i.bytes = 8) := hz2
    clear hlen hc hz2
    go_enter Try.func26, Try.ntmps26
    go_wp2_with (at_make; refine wpList_make_full _ rfl _ _ 25 rfl w.heap.size 22 i (.int .u64 0) 1 Try.underlying25 hi hz0 hz1 _ _ _ _ n rfl rfl rfl rfl (by rw [HI.out]; omega) (by unfold maxLen; omega) (Nat.le_refl _) ?_; intro w1 hown hgr)
    have hown0 : w1.ownsRow w.heap.size 22 1 (.slice (some ⟨w.heap.size, 0, none⟩) n n) n (((zs.take 0).map (Value.int .u64)) ++ List.replicate (n - 0) (Value.int .u64 0)) := by
      have := hown
      simpa [Value.cells, toList_madeCells_one] using this
    have hb0 : Below w.heap.size w w1 := (Below.refl _ _).grown hgr (Nat.le_refl _) (fun k h => by cases h)
    have hsz0 : w.heap.size < w1.heap.size := by
      rcases hown0.2 with ⟨h, -⟩ | ⟨g, cap, cur, h, -, hg, -⟩
      · cases h
      · simp only [Value.slice.injEq, Option.some.injEq, Addr.mk.injEq] at h
        have := (Array.getElem?_eq_some_iff.1 hg).1
        omega
    clear hown hgr
    go_loopw [4] (fun i wr => ∃ k : Nat, k ≤ n ∧ i = .int .i64 k ∧ wr.ownsRow w.heap.size 22 1 (.slice (some ⟨w.heap.size, 0, none⟩) n n) n (((zs.take k).map (Value.int .u64)) ++ List.replicate (n - k) (Value.int .u64 0)) ∧ Below w.heap.size w wr)
      (fun i _ => n - (intOf i).toNat)
    case atStart => exact ⟨0, Nat.zero_le _, rfl, hown0, hb0⟩
    case round =>
      obtain ⟨k, hk, rfl, hown, hbel⟩ := hrel
      clear hown0 hb0 hsz0
      by_cases hlt : k < n
      · have hkz : k < zs.length := by rw [HL.out]; exact hlt
        obtain ⟨b, off, hb, hcc⟩ : ∃ b off, some ad = some ⟨b, off, none⟩ ∧ ∀ i, i < n → w.cell? ⟨b, off + i, none⟩ = some (.int .u64 (zs.getD i 0)) := by
          rcases HC.out with h | h
          · omega
          · exact h
        simp only [Option.some.injEq] at hb
        subst hb
        have hcell : wr.cell? ⟨b, off + k, none⟩ = some (.int .u64 zs[k]) := by rw [hbel.cell (p := ⟨b, off + k, none⟩) (cell_block (hcc k hlt)), hcc k hlt]; simp [List.getD, hkz]
        have hto : wr.cell? ⟨w.heap.size, k, none⟩ = some (.int .u64 0) := by rw [hown.cellAt k (by omega), fill_at zs n k hlt HL.out]
        have hfr : wr.frozen? ⟨w.heap.size, k, none⟩ = false := hown.frozenAt k
        have R := hown.stored k (.int .u64 zs[k])
        rw [fill_step zs n k hkz HL.out] at R
        have HR : Hid (_ ∧ _) := R
        clear R hown hcc HC H0
        go_wp2
        go_roundw
        case rel => exact ⟨k + 1, by omega, by go_num, HR.out.1, hbel.grown HR.out.2 hbel.size (fun j h => by simp only [Option.some.injEq] at h; omega)⟩
        case measure => simp [intOf]; omega
      · clear HC H0
        go_wp2
        go_ret
        have e : k = n := by omega
        subst e
        obtain ⟨a', c', ha, h1, h2, h3⟩ := held_of_owns (zs := zs) (by rw [List.take_of_length_le (by rw [HL.out]; exact Nat.le_refl _), Nat.sub_self, List.replicate_zero, List.append_nil] at hown; exact hown) hmax hr
        exact ⟨a', c', by rw [← ha]; rfl, h1, h2, h3, hbel⟩

theorem Holds64.setCell {w : World} {a : Option Addr} {n : Nat} {zs : List Int} (h : Holds64 w a n zs) {p : Addr} (hne : ∀ x, a = some x → x.block ≠ p.block) (u : Value) : Holds64 (w.setCell p u) a n zs := by
  obtain ⟨h1, h2, h3, h4⟩ := h
  refine ⟨h1, h2, h3, ?_⟩
  rcases h4 with h0 | ⟨b, off, rfl, hc⟩
  · exact .inl h0
  refine .inr ⟨b, off, rfl, fun i hi => ?_⟩
  rw [World.cell?_of_block (w := w) (Below.heap_setCell w p u b (hne _ rfl)), hc i hi]

theorem bcell {W w1 : World} (hb : Below W.heap.size W w1) : (∀ b o, b < W.heap.size → w1.cell? ⟨b, o, none⟩ = W.cell? ⟨b, o, none⟩) ∧ (∀ b o, b < W.heap.size → w1.frozen? ⟨b, o, none⟩ = W.frozen? ⟨b, o, none⟩) :=
  ⟨fun b o h => hb.cell (p := ⟨b, o, none⟩) h, fun b o h => hb.frozen (p := ⟨b, o, none⟩) h⟩

theorem blk_cell {w : World} {b j : Nat} {C : Array Value} {t : TypeId} (h : w.heap[b]? = some (.cells C t (0, 0))) : w.cell? ⟨b, j, none⟩ = C[j]? := cell_of_row w b j C t (0, 0) h
theorem blk_free {w : World} {b j : Nat} {C : Array Value} {t : TypeId} (h : w.heap[b]? = some (.cells C t (0, 0))) : w.frozen? ⟨b, j, none⟩ = false := frozen_of_row w b j C t h
theorem blk_new (w : World) (C : Array Value) (t : TypeId) : (w.alloc (.cells C t)).heap[w.heap.size]? = some (.cells C t (0, 0)) := by
  show (w.heap.push _)[w.heap.size]? = _
  simp
theorem blk_two (w : World) (C D : Array Value) (t u : TypeId) : ((w.alloc (.cells C t)).alloc (.cells D u)).heap[w.heap.size]? = some (.cells C t (0, 0)) ∧ ((w.alloc (.cells C t)).alloc (.cells D u)).heap[w.heap.size + 1]? = some (.cells D u (0, 0)) := by
  refine ⟨?_, ?_⟩
  · rw [Below.heap_alloc _ _ _ (by simp)]; exact blk_new _ _ _
  · have := blk_new (w.alloc (.cells C t)) D u
    simpa using this

set_option maxHeartbeats 1600000 in
theorem cloneCond_any (hm am : Bool) (a1 : Option Addr) (n1 c1 : Nat) (ms : List Int) (hn an : Bool) (a2 : Option Addr) (n2 c2 : Nat) (ns : List Int) (w : World) (h1 : Holds64 w a1 n1 ms) (h2 : Holds64 w a2 n2 ns)
    (s1 : Shaped a1 n1 c1) (s2 : Shaped a2 n2 c2) (m1 : n1 ≤ 1048576) (m2 : n2 ≤ 1048576) :
    Calls Try.prog 13 #[.agg #[.bool hm, .bool am, .slice a1 n1 c1, .bool hn, .bool an, .slice a2 n2 c2]] w fun e w' => ∃ a1' c1' a2' c2', e = .returned (.agg #[.bool hm, .bool am, .slice a1' n1 c1', .bool hn, .bool an, .slice a2' n2 c2']) ∧
      Holds64 w' a1' n1 ms ∧ Shaped a1' n1 c1' ∧ FreshFrom w.heap.size a1' ∧ Holds64 w' a2' n2 ns ∧ Shaped a2' n2 c2' ∧ FreshFrom w.heap.size a2' ∧ Below w.heap.size w w' := by
  go_enter Try.func13, Try.ntmps13
  go_wp2_with fail
  refine (clone_any a1 n1 c1 ms _ ((h1.alloc _).alloc _) s1 m1).mono ?_
  rintro e w1 ⟨a1', c1', rfl, k1, t1, f1, b1⟩
  have hz : w.heap.size + 1 < w1.heap.size := by have := b1.size; simp at this; omega
  have B0 := (b1.block w.heap.size (by simp; omega)).trans (blk_two w _ _ _ _).1
  have B1 := (b1.block (w.heap.size + 1) (by simp)).trans (blk_two w _ _ _ _).2
  have q2 : w1.cell? ⟨w.heap.size, 2, none⟩ = some (.slice a1 n1 c1) := by rw [blk_cell B0]; rfl
  have q5 : w1.cell? ⟨w.heap.size, 5, none⟩ = some (.slice a2 n2 c2) := by rw [blk_cell B0]; rfl
  have r2 : w1.frozen? ⟨w.heap.size, 2, none⟩ = false := blk_free B0
  have bw1 : Below w.heap.size w w1 := (((Below.refl _ _).alloc (Nat.le_refl _) _).alloc (by simp) _).trans (b1.mono (by simp; omega))
  have bw2 : Below w.heap.size w (w1.setCell ⟨w.heap.size, 2, none⟩ (.slice a1' n1 c1')) := bw1.setCell (Nat.le_refl _) _
  have F1 : FreshFrom (w.heap.size + 2) a1' := fun x hx => by have := f1 x hx; simpa using this
  have K1 : Holds64 (w1.setCell ⟨w.heap.size, 2, none⟩ (.slice a1' n1 c1')) a1' n1 ms := k1.setCell (fun x hx e => by have := F1 x hx; simp at e; omega) _
  have C0 := heap_setCell_same w1 w.heap.size 2 _ _ (.slice a1' n1 c1') B0
  have C1 := (heap_setCell_other w1 ⟨w.heap.size, 2, none⟩ (w.heap.size + 1) (.slice a1' n1 c1') (by simp)).trans B1
  have HB : Hid (_ ∧ _) := And.intro C0 C1
  clear C0 C1 B0 B1 b1 f1
  go_wp2_with fail
  refine (clone_any a2 n2 c2 ns _ (h2.below bw2) s2 m2).mono ?_
  rintro e w2 ⟨a2', c2', rfl, k2, t2, f2, b2⟩
  have hz2 : w.heap.size + 1 < w2.heap.size := by have := b2.size; simp at this; omega
  have F2 : FreshFrom (w.heap.size + 2) a2' := fun x hx => by have := f2 x hx; simp at this; omega
  have K1' : Holds64 w2 a1' n1 ms := K1.below b2
  have bw3 : Below w.heap.size w w2 := bw2.trans (b2.mono bw2.size)
  have B0 := (b2.block w.heap.size (by simp; omega)).trans HB.out.1
  have B1 := (b2.block (w.heap.size + 1) (by simp; omega)).trans HB.out.2
  have v0 : w2.cell? ⟨w.heap.size, 0, none⟩ = some (.bool hm) := by rw [blk_cell B0]; rfl
  have v1 : w2.cell? ⟨w.heap.size, 1, none⟩ = some (.bool am) := by rw [blk_cell B0]; rfl
  have v2 : w2.cell? ⟨w.heap.size, 2, none⟩ = some (.slice a1' n1 c1') := by rw [blk_cell B0]; rfl
  have v3 : w2.cell? ⟨w.heap.size, 3, none⟩ = some (.bool hn) := by rw [blk_cell B0]; rfl
  have v4 : w2.cell? ⟨w.heap.size, 4, none⟩ = some (.bool an) := by rw [blk_cell B0]; rfl
  have v5 : w2.cell? ⟨w.heap.size, 5, none⟩ = some (.slice a2 n2 c2) := by rw [blk_cell B0]; rfl
  have u5 : w2.frozen? ⟨w.heap.size, 5, none⟩ = false := blk_free B0
  have x0 : w2.cell? ⟨w.heap.size + 1, 0, none⟩ = some (.bool false) := by rw [blk_cell B1]; rfl
  have x1 : w2.cell? ⟨w.heap.size + 1, 1, none⟩ = some (.bool false) := by rw [blk_cell B1]; rfl
  have x2 : w2.cell? ⟨w.heap.size + 1, 2, none⟩ = some (.slice none 0 0) := by rw [blk_cell B1]; rfl
  have x3 : w2.cell? ⟨w.heap.size + 1, 3, none⟩ = some (.bool false) := by rw [blk_cell B1]; rfl
  have x4 : w2.cell? ⟨w.heap.size + 1, 4, none⟩ = some (.bool false) := by rw [blk_cell B1]; rfl
  have x5 : w2.cell? ⟨w.heap.size + 1, 5, none⟩ = some (.slice none 0 0) := by rw [blk_cell B1]; rfl
  have y : ∀ j, w2.frozen? ⟨w.heap.size + 1, j, none⟩ = false := fun j => blk_free B1
  clear K1 k1 f2 bw2 h1 h2 b2 bw1 HB q2 q5 r2 B0 B1
  go_wp2_with fail
  refine bodyPost_ret (v := .agg #[.bool hm, .bool am, .slice a1' n1 c1', .bool hn, .bool an, .slice a2' n2 c2']) (by simp [results, Try.results13, go_sem, x0, x1, x2, x3, x4, x5]) rfl ⟨a1', c1', a2', c2', rfl, ?_, t1, fun x hx => (by have := F1 x hx; omega), ?_, t2, fun x hx => (by have := F2 x hx; omega), ?_⟩
  · iterate 7 refine Holds64.setCell ?_ (fun x hx e => by have := F1 x hx; simp at e; omega) _
    exact K1'
  · iterate 7 refine Holds64.setCell ?_ (fun x hx e => by have := F2 x hx; simp at e; omega) _
    exact k2
  · iterate 7 refine Below.setCell ?_ (by simp) _
    exact bw3

end Go.Proofs.Qxb6600422a
