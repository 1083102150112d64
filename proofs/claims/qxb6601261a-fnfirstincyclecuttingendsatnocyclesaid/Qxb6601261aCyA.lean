/-
  MEMORY: rows that the call itself makes, told by a function of the place ('RowF'); a slice of ints that is read ('HoldsI'); append to a row of the call's own.
-/
import Derived.Test.Qxb6601261aProg
import Derived.Test.Qxb6601261aCyP
import Derived.WalkKit
import Derived.WalkSpells
import Derived.WalkLawsBesides
import Derived.Deep.Light
import Derived.Laws.AppendOwnNone
namespace Go.Proofs.Qxb6601261a
open Go.RowKit

theorem rb {a b : Bool} (h : a = b) : Ending.returned (.bool a) = .returned (.bool b) := by rw [h]
theorem ri {k : IntKind} {a b : Int} (h : a = b) : Ending.returned (.int k a) = .returned (.int k b) := by rw [h]
theorem Try.info3 : (Try.prog.info? 3).map (fun i => (i.zero, i.size, i.bytes)) = some (some (.int .i64 0), 1, 8) := by kernel_rfl
theorem Try.info5 : (Try.prog.info? 5).map (fun i => (i.zero, i.size, i.bytes)) = some (some (.int .u8 0), 1, 1) := by kernel_rfl
theorem Try.info4 : (Try.prog.info? 4).map (fun i => (i.zero, i.size, i.bytes)) = some (some (.bool false), 1, 1) := by kernel_rfl

theorem cell_block {w : World} {a : Addr} {v : Value} (h : w.cell? a = some v) : a.block < w.heap.size := by
  unfold World.cell? at h
  by_cases hb : a.block < w.heap.size
  · exact hb
  · simp [Array.getElem?_eq_none (Nat.le_of_not_lt hb)] at h

/-- Block g is a row of n cells, cell i holds 'f i'. -/
def RowF (w : World) (g : Nat) (e : TypeId) (n : Nat) (f : Nat → Value) : Prop := w.heap[g]? = some (.cells ((List.range n).map f).toArray e (0, 0))

section
variable {w w' : World} {g n j : Nat} {e : TypeId} {f f' : Nat → Value}
theorem RowF.lt (h : RowF w g e n f) : g < w.heap.size := (Array.getElem?_eq_some_iff.1 h).1
theorem RowF.cell (h : RowF w g e n f) (hj : j < n) : w.cell? ⟨g, j, none⟩ = some (f j) := by
  rw [cell_of_row w g j _ e (0, 0) h]
  simp [hj]
theorem RowF.free (h : RowF w g e n f) : w.frozen? ⟨g, j, none⟩ = false := frozen_of_row w g j _ e h
theorem RowF.congr (h : RowF w g e n f) (hf : ∀ i, i < n → f i = f' i) : RowF w g e n f' := by
  unfold RowF at h ⊢
  rw [h]
  have : (List.range n).map f = (List.range n).map f' := List.map_congr_left (fun i hi => hf i (List.mem_range.1 hi))
  rw [this]
theorem RowF.set (h : RowF w g e n f) (u : Value) : RowF (w.setCell ⟨g, j, none⟩ u) g e n (upd f j u) := by
  have := heap_setCell_same w g j _ e u h
  unfold RowF
  rw [this]
  congr 2
  apply Array.ext_getElem?
  intro i
  simp only [Array.getElem?_setIfInBounds, List.getElem?_toArray, List.size_toArray, List.length_map, List.length_range, List.getElem?_map]
  by_cases e1 : j = i
  · subst e1
    by_cases hj : j < n
    · simp [hj, upd]
    · simp [hj]
  · by_cases hi : i < n
    · simp [e1, hi, upd, Ne.symm e1]
    · simp [e1, hi]
theorem RowF.other (h : RowF w g e n f) {p : Addr} (hp : g ≠ p.block) (u : Value) : RowF (w.setCell p u) g e n f := (Below.heap_setCell w p u g hp).trans h
theorem RowF.below {B : Nat} (h : RowF w g e n f) (hb : Below B w w') (hg : g < B) : RowF w' g e n f := (hb.block g hg).trans h
theorem RowF.alloc (h : RowF w g e n f) (o : Obj) : RowF (w.alloc o) g e n f := (Below.heap_alloc w o g h.lt).trans h
end

theorem row_made {w : World} {base e n g : Nat} {z : Value} (h : w.ownsRow base e 1 (.slice (some ⟨g, 0, none⟩) n n) n (List.replicate n z)) : RowF w g e n (fun _ => z) := by
  rcases h.2 with ⟨h', -⟩ | ⟨g', cap', cur, h', -, hg, -, -, hcs, ht⟩
  · cases h'
  · simp only [Value.slice.injEq, Option.some.injEq, Addr.mk.injEq, and_true, true_and] at h'
    obtain ⟨rfl, rfl⟩ := h'
    unfold RowF
    rw [hg]
    have e1 : cur.toList = List.replicate n z := by rw [← ht, List.take_of_length_le (by rw [Array.length_toList]; omega)]
    have e2 : (List.range n).map (fun _ => z) = List.replicate n z := by
      rw [List.eq_replicate_iff]
      refine ⟨by rw [List.length_map, List.length_range], fun b hb => ?_⟩
      obtain ⟨_, _, h⟩ := List.mem_map.1 hb
      exact h.symm
    rw [e2, ← e1]

/-- make([]T, n): a row of noughts in the next block. -/
theorem wpList_make_row {w : World} {ops : Array Oper} {rest : List Oper} {o : Oper} {a : Act} {Q : Exit → Act → World → Prop} (hg : o.guard = none) (l c : Operand) (t e : TypeId) (hop : o.op = Op.makeSlice t l c)
    (z : Value) (bytes : Nat) (ht : Try.prog.underlying t = some (.slice e)) (hinfo : (Try.prog.info? e).map (fun i => (i.zero, i.size, i.bytes)) = some (some z, 1, bytes)) (hb : bytes ≤ 8) (hz1 : z.cells = #[z])
    (n : Nat) (hl : a.eval l = .int .i64 n) (hc : a.eval c = .int .i64 n) (hn : n ≤ 1048576)
    (hK : ∀ w', RowF w' w.heap.size e n (fun _ => z) → Below w.heap.size w w' → wpList Try.prog ops Q rest (a.put o.dst (.slice (some ⟨w.heap.size, 0, none⟩) n n)) w') :
    wpList Try.prog ops Q (o :: rest) a w := by
  obtain ⟨i, hi, hz, hs, hby⟩ := info_parts hinfo
  refine wpList_make_full w hg l c t hop w.heap.size e i z 1 ht hi hz hs _ _ _ _ n hl hc rfl rfl ?_ (by unfold maxLen; omega) (Nat.le_refl _) ?_
  · rw [hby]
    have := Nat.mul_le_mul hb hn
    omega
  · intro w' hown hgr
    refine hK w' (row_made (base := w.heap.size) ?_) ((Below.refl _ _).grown hgr (Nat.le_refl _) (fun k h => by cases h))
    rw [hz1, Nat.mul_one, toList_madeCells_one] at hown
    exact hown

/-- A slice of n ints, as it lies in w. -/
def HoldsI (w : World) (a : Option Addr) (n : Nat) (ps : List Int) : Prop :=
  ps.length = n ∧ (n = 0 ∨ ∃ b off, a = some ⟨b, off, none⟩ ∧ ∀ i, i < n → w.cell? ⟨b, off + i, none⟩ = some (.int .i64 (ps.getD i (-1))))
theorem HoldsI.below {w w' : World} {a : Option Addr} {n : Nat} {ps : List Int} (h : HoldsI w a n ps) (hb : Below w.heap.size w w') : HoldsI w' a n ps := by
  obtain ⟨h1, h4⟩ := h
  refine ⟨h1, ?_⟩
  rcases h4 with h0 | ⟨b, off, rfl, hc⟩
  · exact .inl h0
  refine .inr ⟨b, off, rfl, fun i hi => ?_⟩
  rw [hb.cell (p := ⟨b, off + i, none⟩) (cell_block (hc i hi)), hc i hi]
theorem HoldsI.place {w : World} {a : Option Addr} {n i : Nat} {ps : List Int} (h : HoldsI w a n ps) (hi : i < n) : ∃ b off, a = some ⟨b, off, none⟩ ∧ ∀ i, i < n → w.cell? ⟨b, off + i, none⟩ = some (.int .i64 (ps.getD i (-1))) := by
  rcases h.2 with h0 | h
  · omega
  · exact h
theorem RowF.holds {w : World} {g n : Nat} {ps : List Int} (h : RowF w g 3 n (fun i => .int .i64 (ps.getD i (-1)))) (hl : ps.length = n) : HoldsI w (some ⟨g, 0, none⟩) n ps :=
  ⟨hl, .inr ⟨g, 0, rfl, fun i hi => by rw [Nat.zero_add]; exact h.cell hi⟩⟩

theorem owns_block {w : World} {base e size n : Nat} {v : Value} {xs : List Value} (h : w.ownsRow base e size v n xs) : ∀ k, v.ownBlock = some k → base ≤ k := by
  rcases h.2 with ⟨rfl, -⟩ | ⟨g, cap, cur, rfl, hb, -⟩
  · intro k hk; simp [Value.ownBlock] at hk
  · intro k hk; simp [Value.ownBlock] at hk; omega
theorem owns_shape {w : World} {base e n : Nat} {v : Value} {xs : List Value} (h : w.ownsRow base e 1 v n xs) : ∃ a c, v = .slice a n c := by
  rcases h.2 with ⟨rfl, rfl⟩ | ⟨g, cap, cur, rfl, -⟩
  · exact ⟨_, _, rfl⟩
  · exact ⟨_, _, rfl⟩

/-- walk = append(walk, x): x lies in the block that has just been made. -/
theorem wpList_append_one {w : World} {ops : Array Oper} {rest : List Oper} {o : Oper} {a : Act} {Q : Exit → Act → World → Prop} (hgd : o.guard = none) (s x : Operand)
    (ho : o.op = .call { callee := .builtin .append, args := #[s, x], argTypes := #[22, 22] })
    (base : Nat) (v : Value) (n : Nat) (ys : List Int) (hs : a.eval s = v) (w0 : World) (hown : w0.ownsRow base 3 1 v n (ys.map (Value.int .i64))) (y : Int) (hw : w = w0.alloc (.cells #[.int .i64 y] 3))
    (g0 : Nat) (hg0 : g0 = w0.heap.size) (hx : a.eval x = .slice (some ⟨g0, 0, none⟩) 1 1) (hn : n + 1 ≤ 1048576) (hbase : base ≤ w0.heap.size)
    (h : ∀ a' c' w', w'.ownsRow base 3 1 (.slice a' (n + 1) c') (n + 1) ((ys ++ [y]).map (Value.int .i64)) → Below base w0 w' → wpList Try.prog ops Q rest (a.put o.dst (.slice a' (n + 1) c')) w') : wpList Try.prog ops Q (o :: rest) a w := by
  obtain ⟨i, hi, hz0, hz1, hz2⟩ := info_parts Try.info3
  subst hw
  subst hg0
  refine wpList_append_own _ hgd s x 22 ho base 3 i (.int .i64 0) 1 8 Try.underlying22 hi hz0 hz1 hz2 rfl (by decide) v n _ hs (hown.alloc _) ⟨w0.heap.size, 0, none⟩ 1 1 [.int .i64 y] hx rfl ?_ ?_ (by unfold maxLen; omega) (by omega) (by simp; omega) ?_
  · intro j u hj
    match j, hj with
    | 0, hj =>
      simp at hj
      subst hj
      have : (w0.alloc (.cells #[.int .i64 y] 3)).heap[w0.heap.size]? = some (.cells #[.int .i64 y] 3 (0, 0)) := by
        show (w0.heap.push _)[w0.heap.size]? = _
        simp
      have e : (⟨w0.heap.size, 0, none⟩ : Addr).add 0 = ⟨w0.heap.size, 0, none⟩ := by unfold Addr.add; simp
      rw [e, cell_of_row _ _ _ _ _ _ this]
      rfl
    | j + 1, hj => simp at hj
  · intro u hu
    simp at hu
    subst hu
    rfl
  · intro v' w' ho' hgr _
    obtain ⟨a', c', rfl⟩ := owns_shape ho'
    refine h a' c' w' (by rw [List.map_append]; exact ho') ?_
    exact ((Below.refl _ _).alloc hbase _).trans ((Below.refl _ _).grown hgr (by simp; omega) (owns_block hown))

end Go.Proofs.Qxb6601261a
