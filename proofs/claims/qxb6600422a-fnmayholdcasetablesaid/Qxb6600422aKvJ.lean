/-
  'Rows.FnMayHoldCaseTableSaid' PROVED: the row's step: the two struct arguments are opened, the walk is taken, all is shut again.
-/
import Derived.Test.Qxb6600422aRows
import Derived.Test.Qxb6600422aKvI
import Derived.WalkKit
import Derived.ProofKit
import Derived.OpenShut
import Derived.ShutString
import Derived.ChangeOld
import Derived.Below
import Derived.Lib.SmallJoins
namespace Go.Proofs.Qxb6600422a
open Go.ChangeShapes Go.WideShapes Go.ChangeAt Go.RowKit Go.Joins Go.Deep
open Go.ChangeMaps (open_string shut_string)
set_option linter.unusedVariables false

theorem own : ownKnob Try.prog.godebug = none := by kernel_rfl
theorem laidOut : laidOutB Try.prog = true := by kernel_rfl
theorem Try.cells24 : Try.prog.cellsOf 24 = 3 := by kernel_rfl
theorem Try.cells27 : Try.prog.cellsOf 27 = 6 := by kernel_rfl
theorem Try.cells22 : Try.prog.cellsOf 22 = 1 := by kernel_rfl

theorem array6 {α : Type} {cs : Array α} (h : cs.size = 6) : ∃ c0 c1 c2 c3 c4 c5, cs = #[c0, c1, c2, c3, c4, c5] := by
  obtain ⟨l⟩ := cs
  match l, h with
  | [c0, c1, c2, c3, c4, c5], _ => exact ⟨c0, c1, c2, c3, c4, c5, rfl⟩

section
variable {H : Type} {enc : TypeId × Value → H} {P : Program} {w : World} {base : Nat} {spare : Nat → Bool} {held : Bool}

/-- A struct of six one-cell fields, by value, opened: each field's cell with its own reading. -/
theorem open_agg6 {r : Reach} {b0 : Nat} {t : TypeId} {f0 f1 f2 f3 f4 f5 : Field} {v : Value} {d : DataW H} {p : List MemPlace} (hs : P.underlying t = some (.struct #[f0, f1, f2, f3, f4, f5])) (hone : oneCellFields P #[f0, f1, f2, f3, f4, f5] = true) (hC : P.cellsOf t = 6)
    (hv : Value.okWide P w r b0 t v) (h : DataW.Trod enc P w base spare held t v d p) :
    ∃ (v0 v1 v2 v3 v4 v5 : Value) (y0 y1 y2 y3 y4 y5 : DataW H × List MemPlace) (n : Nat), v = .agg #[v0, v1, v2, v3, v4, v5] ∧
      DataW.trod enc P w base spare held n f0.type [v0] = some y0 ∧ DataW.trod enc P w base spare held n f1.type [v1] = some y1 ∧ DataW.trod enc P w base spare held n f2.type [v2] = some y2 ∧
      DataW.trod enc P w base spare held n f3.type [v3] = some y3 ∧ DataW.trod enc P w base spare held n f4.type [v4] = some y4 ∧ DataW.trod enc P w base spare held n f5.type [v5] = some y5 := by
  obtain ⟨cs, rfl, hsz⟩ := okWide_struct hs hv
  obtain ⟨c0, c1, c2, c3, c4, c5, rfl⟩ := array6 (hsz.trans hC)
  obtain ⟨fuel, hf⟩ := h
  obtain ⟨xs, n, -, -, -, hlen, hg⟩ := DataW.trod_struct hs hf
  obtain ⟨o0, k0⟩ := hone_of hone 0 f0 rfl
  obtain ⟨o1, k1⟩ := hone_of hone 1 f1 rfl
  obtain ⟨o2, k2⟩ := hone_of hone 2 f2 rfl
  obtain ⟨o3, k3⟩ := hone_of hone 3 f3 rfl
  obtain ⟨o4, k4⟩ := hone_of hone 4 f4 rfl
  obtain ⟨o5, k5⟩ := hone_of hone 5 f5 rfl
  match xs, hlen with
  | [y0, y1, y2, y3, y4, y5], _ =>
    have g0 := hg 0 f0 rfl
    have g1 := hg 1 f1 rfl
    have g2 := hg 2 f2 rfl
    have g3 := hg 3 f3 rfl
    have g4 := hg 4 f4 rfl
    have g5 := hg 5 f5 rfl
    exact ⟨c0, c1, c2, c3, c4, c5, y0, y1, y2, y3, y4, y5, n, rfl, by simpa [Value.cells, o0, k0] using g0, by simpa [Value.cells, o1, k1] using g1, by simpa [Value.cells, o2, k2] using g2,
      by simpa [Value.cells, o3, k3] using g3, by simpa [Value.cells, o4, k4] using g4, by simpa [Value.cells, o5, k5] using g5⟩
end

/-- A slice of versions that came in, as the walk asks it. -/
theorem held_of_trod25 {H : Type} {enc : TypeId × Value → H} {W : World} {spare : Nat → Bool} {held : Bool} {n : Nat} {v : Value} {y : DataW H × List MemPlace} (h : DataW.trod enc Try.prog W 0 spare held n 25 [v] = some y) :
    ∃ a len cap zs, v = .slice a len cap ∧ Holds64 W a len zs ∧ Shaped a len cap := by
  rcases open_ints Try.underlying25 Try.underlying22 Try.cells22 h with ⟨hcs, _⟩ | ⟨x, l, c, zs, hcs, _, hl, hm, hz, _, hcell, hwz⟩
  · simp only [List.cons.injEq, and_true] at hcs
    exact ⟨none, 0, 0, [], hcs, ⟨rfl, by omega, fun z hz => (by cases hz), .inl rfl⟩, fun _ => ⟨rfl, rfl⟩⟩
  · simp only [List.cons.injEq, and_true] at hcs
    have hlz : l ≤ zs.length := by rw [hz]; split <;> omega
    refine ⟨some x, l, c, zs.take l, hcs, ⟨by simp; omega, by unfold maxLen at hm; omega, fun z hzm => bounds_u64 (hwz z (List.mem_of_mem_take hzm)), ?_⟩, fun h => by cases h⟩
    by_cases h0 : l = 0
    · exact .inl h0
    · right
      obtain ⟨b, off, spot⟩ := x
      have hspot : spot = none := by simpa [Addr.add] using World.cell?_spot (hcell 0 (by omega))
      subst hspot
      refine ⟨b, off, rfl, fun i hi => ?_⟩
      have := hcell i (by omega)
      rw [add_plain] at this
      rw [this]
      simp [List.getD, hi]

set_option maxRecDepth 100000 in
set_option maxHeartbeats 1000000 in
theorem lifted (os : Os) (started : os.Started) (H : Type) (enc : TypeId × Value → H) :
    ReturnsInHanded {} Try.checked os 3 .any (Rows.fnMayHoldCaseTableSpec.pre6 enc Try.prog Try.f3 Rows.fnMayHoldCaseTableRow.domain false) (Rows.fnMayHoldCaseTableSpec.post enc Try.prog Try.f3 false true false false) := by
  refine returnsInHanded_of_change (C := Try.checked) own started (by kernel_rfl) Try.func3
    (ChangeSpec.witness6 (enc := enc) (C := Try.checked) false ⟨#[], #[.agg #[.bool false, .string ByteArray.empty, .int .u64 0], .agg #[.bool false, .bool false, .slice none 0 0, .bool false, .bool false, .slice none 0 0]], []⟩ 8 (by kernel_rfl) (by kernel_rfl) (by kernel_rfl) (by kernel_rfl)) ?_
  intro W base args ds gs before hval0 hW hcnd _
  have hval : ∀ (j : Nat) t v, Try.f3.params[j]? = some t → args[j]? = some v → Value.okWide Try.prog W .any base t v := hval0
  have hW' := hW
  obtain ⟨p, q, hA0, hV, rfl, hfz, hnd⟩ := hW
  have hA : DataW.TrodAll enc Try.prog W 0 (fun _ => true) true Try.f3.params.toList args.toList ds p := hA0
  rw [Try.params3] at hA hval
  obtain ⟨v0, vs0, d0, ds0, p0, q0, hargs, rfl, rfl, h0, r0⟩ := trodAll_cons hA
  obtain ⟨v1, vs1, d1, ds1, p1, q1, rfl, rfl, rfl, h1, r1⟩ := trodAll_cons r0
  obtain ⟨rfl, rfl, rfl⟩ := trodAll_nil r1
  obtain rfl : args = #[v0, v1] := by cases args; simp_all
  obtain ⟨rfl, rfl⟩ := trodVars_none hV
  have k0 := h0
  have k1 := h1
  have lt0 : ∀ x ∈ p0, x.block < W.heap.size := by obtain ⟨m, hm⟩ := k0; exact DataW.trod_lt m _ _ _ hm
  have lt1 : ∀ x ∈ p1, x.block < W.heap.size := by obtain ⟨m, hm⟩ := k1; exact DataW.trod_lt m _ _ _ hm
  obtain ⟨c0, c1, c2, y0, y1, y2, m, rfl, -, -, t0, t1, t2⟩ := open_agg3 Try.underlying24 (by kernel_rfl) Try.cells24 (hval 0 24 v0 rfl rfl) h0
  obtain ⟨e0, e1, e2, e3, e4, e5, z0, z1, z2, z3, z4, z5, m', rfl, u0, u1, u2, u3, u4, u5⟩ := open_agg6 Try.underlying27 (by kernel_rfl) Try.cells27 (hval 1 27 v1 rfl rfl) h1
  obtain ⟨set, g0, -⟩ := DataW.trod_bool Try.underlying4 t0
  obtain ⟨sv, g1, -, hsv⟩ := DataW.trod_string Try.underlying9 t1
  obtain ⟨ver, g2, -, -⟩ := DataW.trod_int Try.underlying22 t2
  obtain ⟨hm, j0, -⟩ := DataW.trod_bool Try.underlying4 u0
  obtain ⟨am, j1, -⟩ := DataW.trod_bool Try.underlying4 u1
  obtain ⟨a1, n1, b1, ms, j2, H1, S1⟩ := held_of_trod25 u2
  obtain ⟨hn, j3, -⟩ := DataW.trod_bool Try.underlying4 u3
  obtain ⟨an, j4, -⟩ := DataW.trod_bool Try.underlying4 u4
  obtain ⟨a2, n2, b2, ns, j5, H2, S2⟩ := held_of_trod25 u5
  simp only [List.cons.injEq, and_true] at g0 g1 g2 j0 j1 j3 j4
  subst g0 g1 g2 j0 j1 j2 j3 j4 j5
  clear hA0 hval0 t0 t1 t2 u0 u1 u2 u3 u4 u5
  refine (walk set sv ver hm am a1 n1 b1 ms hn an a2 n2 b2 ns W hsv H1 H2 S1 S2).mono fun e W' ⟨he, bel⟩ => ?_
  subst he
  exact ⟨_, rfl, _, _, _, [], _, [], hW', trodAll_mk1 (shut_bool Try.underlying4 _),
    (trodAll_cons_mk (Below.trod laidOut (by kernel_rfl) (of_decide_eq_true (by kernel_rfl)) k0 bel lt0) (trodAll_cons_mk (Below.trod laidOut (by kernel_rfl) (of_decide_eq_true (by kernel_rfl)) k1 bel lt1) trodAll_mk0)), rfl, bel.frame _, fun h => by cases h⟩

/-- THE STATEMENT. -/
theorem fnMayHoldCaseTable_proved : Rows.FnMayHoldCaseTableSaid :=
  OpenClaim.holds_of_wide 3 Try.f3 rfl rfl rfl rfl rfl rfl rfl ⟨rfl, rfl, rfl, rfl, rfl⟩ rfl rfl rfl rfl rfl (by kernel_rfl) Try.func3 (by kernel_rfl)
    (of_decide_eq_true (by kernel_rfl)) (by unfold Func.isWrapper; first | (rw [if_pos (by decide +kernel)]; kernel_rfl) | (rw [if_neg (by decide +kernel)]; exact ⟨rfl, rfl⟩))
    (fun os started H enc _ => lifted os started H enc)

end Go.Proofs.Qxb6600422a
