/-
  THE WALKS, part G: mayHold, ZZMayHold.
-/
import Derived.Test.Qxb6600422aKvF
namespace Go.Proofs.Qxb6600422a
open Go.RowKit

/-- What mayHold has gathered after k matches. -/
def gat (hm : Bool) (ms : List Int) (hn : Bool) (ns : List Int) : Nat → List Int
  | 0 => []
  | 1 => [] ++ if hm then ms else []
  | _ => ([] ++ if hm then ms else []) ++ if hn then ns else []

theorem gat_step (w : World) (B : Nat) (hm am : Bool) (ms : List Int) (p1 : Option Addr) (hn an : Bool) (ns : List Int) (p2 : Option Addr) (h1 : MatchAt w hm am ms p1) (h2 : MatchAt w hn an ns p2)
    (q0 : w.cell? ⟨B, 0, none⟩ = some (.pointer p1)) (q1 : w.cell? ⟨B, 1, none⟩ = some (.pointer p2)) (k : Nat) (hk : k < 2) :
    ∃ h any zs p, w.cell? ⟨B, k, none⟩ = some (.pointer p) ∧ MatchAt w h any zs p ∧ gat hm ms hn ns (k + 1) = gat hm ms hn ns k ++ (if h then zs else []) ∧ (zs = ms ∨ zs = ns) := by
  match k, hk with
  | 0, _ => exact ⟨hm, am, ms, p1, q0, h1, rfl, .inl rfl⟩
  | 1, _ => exact ⟨hn, an, ns, p2, q1, h2, rfl, .inr rfl⟩

def capU (zs : List Int) : Int := zs.foldl (fun u v => max u (v + 1)) 1
theorem capU_snoc (zs : List Int) (v : Int) : capU (zs ++ [v]) = max (capU zs) (v + 1) := by unfold capU; rw [List.foldl_append]; rfl

def mayB (set : Bool) (ver : Int) (hm am : Bool) (ms : List Int) (hn an : Bool) (ns : List Int) : Bool :=
  if set = false then holdsAtB hm am ms hn an ns 0 else if (ver == 0) = false then holdsAtB hm am ms hn an ns ver
  else (gat hm ms hn ns 2 ++ [capU (gat hm ms hn ns 2)]).any (askB hm am ms hn an ns)

theorem gat_len (hm : Bool) (ms : List Int) (hn : Bool) (ns : List Int) (k : Nat) : (gat hm ms hn ns k).length ≤ ms.length + ns.length := by
  unfold gat
  split
  · simp
  · cases hm <;> simp
  · cases hm <;> cases hn <;> simp

theorem gat_mem {hm : Bool} {ms : List Int} {hn : Bool} {ns : List Int} {k : Nat} {z : Int} (h : z ∈ gat hm ms hn ns k) : z ∈ gat hm ms hn ns 2 := by
  match k, h with
  | 0, h => simp [gat] at h
  | 1, h => exact List.mem_append_left _ h
  | _ + 2, h => exact h

theorem owns_shape {w : World} {base n : Nat} {v : Value} {xs : List Value} (h : w.ownsRow base 22 1 v n xs) : ∃ a c, v = .slice a n c := by
  rcases h.2 with ⟨rfl, rfl⟩ | ⟨g, cap, cur, rfl, -⟩
  · exact ⟨_, _, rfl⟩
  · exact ⟨_, _, rfl⟩

theorem wpList_append_held2 {w : World} {ops : Array Oper} {rest : List Oper} {o : Oper} {a : Act} {Q : Exit → Act → World → Prop} (hgd : o.guard = none) (s x : Operand)
    (ho : o.op = .call { callee := .builtin .append, args := #[s, x], argTypes := #[25, 25] })
    (base : Nat) (v : Value) (n : Nat) (ys : List Int) (hs : a.eval s = v) (hown : w.ownsRow base 22 1 v n (ys.map (Value.int .u64)))
    (ad : Option Addr) (m c : Nat) (zs : List Int) (hx : a.eval x = .slice ad m c) (hz : Holds64 w ad m zs) (hsh : Shaped ad m c)
    (h63 : n + m ≤ 1048576) (hbase : base ≤ w.heap.size)
    (h : ∀ a' c' w', w'.ownsRow base 22 1 (.slice a' (n + m) c') (n + m) ((ys ++ zs).map (Value.int .u64)) → Below base w w' → wpList Try.prog ops Q rest (a.put o.dst (.slice a' (n + m) c')) w') : wpList Try.prog ops Q (o :: rest) a w := by
  refine wpList_append_held hgd s x ho base v n _ hs hown ad m c zs hx hz hsh h63 hbase ?_
  intro v' w' hown' hb
  obtain ⟨a', c', rfl⟩ := owns_shape hown'
  exact h a' c' w' (by rw [List.map_append]; exact hown') hb

theorem cap_step {L : List Int} {k : Nat} (h : k < L.length) : Value.int IntKind.u64 (if capU (L.take k) < L[k] + 1 then L[k] + 1 else capU (L.take k)) = Value.int IntKind.u64 (capU (L.take (k + 1))) := by
  rw [List.take_succ_eq_append_getElem h, capU_snoc]
  congr 1
  rw [Int.max_def]
  split <;> split <;> omega

theorem capU_range (L : List Int) (h : ∀ z ∈ L, 0 ≤ z ∧ z ≤ 18446744073709551614) : 0 ≤ capU L ∧ capU L ≤ 18446744073709551615 := by
  have key : ∀ (L : List Int) (u : Int), 0 ≤ u → u ≤ 18446744073709551615 → (∀ z ∈ L, 0 ≤ z ∧ z ≤ 18446744073709551614) → 0 ≤ L.foldl (fun u v => max u (v + 1)) u ∧ L.foldl (fun u v => max u (v + 1)) u ≤ 18446744073709551615 := by
    intro L
    induction L with
    | nil => intro u h1 h2 _; exact ⟨h1, h2⟩
    | cons z r ih =>
      intro u h1 h2 h3
      have hz := h3 z (by simp)
      exact ih (max u (z + 1)) (by omega) (by omega) (fun y hy => h3 y (by simp [hy]))
  exact key L 1 (by omega) (by omega) h

theorem one_held (w : World) (x : Int) (hx : 0 ≤ x ∧ x ≤ 18446744073709551615) : Holds64 (w.alloc (.cells #[.int .u64 x] 22)) (some ⟨w.heap.size, 0, none⟩) 1 [x] := by
  refine ⟨rfl, by omega, fun z hz => by rw [List.mem_singleton] at hz; subst hz; exact hx, .inr ⟨w.heap.size, 0, rfl, fun i hi => ?_⟩⟩
  obtain rfl : i = 0 := by omega
  rw [blk_cell (blk_new w _ _)]; rfl

set_option maxHeartbeats 1600000 in
theorem mayHold_unknown (s : ByteArray) (hm am : Bool) (ms : List Int) (p1 : Option Addr) (hn an : Bool) (ns : List Int) (p2 : Option Addr) (w : World) (h1 : MatchAt w hm am ms p1) (h2 : MatchAt w hn an ns p2)
    (l1 : ms.length ≤ 262144) (l2 : ns.length ≤ 262144) (hr : ∀ z ∈ gat hm ms hn ns 2, 0 ≤ z ∧ z ≤ 18446744073709551614) :
    Calls Try.prog 27 #[.agg #[.bool true, .string s, .int .u64 0], .agg #[.pointer p1, .pointer p2]] w fun e w' => e = .returned (.bool ((gat hm ms hn ns 2 ++ [capU (gat hm ms hn ns 2)]).any (askB hm am ms hn an ns))) ∧ Below w.heap.size w w' := by
  have LT : Hid (ms.length + ns.length ≤ 524288) := by unfold Hid; omega
  have HR : Hid (∀ z ∈ gat hm ms hn ns 2, 0 ≤ z ∧ z ≤ 18446744073709551614) := hr
  have H1 : Hid (MatchAt w hm am ms p1) := h1
  have H2 : Hid (MatchAt w hn an ns p2) := h2
  obtain ⟨G, hG⟩ : ∃ G, G = gat hm ms hn ns := ⟨_, rfl⟩
  have HG : Hid (G = gat hm ms hn ns) := hG
  rw [← hG]
  clear hr h1 h2 l1 l2 hG
  go_enter Try.func27, Try.ntmps27
  go_wp2_with fail
  go_loopw [5, 31] (fun v i wr => ∃ (k : Nat) (a : Option Addr) (c : Nat), k ≤ 2 ∧ i = .int .i64 k ∧ v = .slice a (G k).length c ∧ wr.ownsRow (w.heap.size + 3) 22 1 (.slice a (G k).length c) (G k).length ((G k).map (Value.int .u64)) ∧
      wr.cell? ⟨w.heap.size + 1, 0, none⟩ = some (.pointer p1) ∧ wr.cell? ⟨w.heap.size + 1, 1, none⟩ = some (.pointer p2) ∧ wr.cell? ⟨w.heap.size + 1 + 1, 0, none⟩ = some (.pointer p1) ∧ wr.cell? ⟨w.heap.size + 1 + 1, 1, none⟩ = some (.pointer p2) ∧
      Below w.heap.size w wr ∧ w.heap.size + 3 ≤ wr.heap.size)
    (fun _ i _ => 2 - (intOf i).toNat)
  case atStart =>
    have e0 : G 0 = [] := by rw [HG.out]; rfl
    refine ⟨0, none, 0, by omega, rfl, by rw [e0]; rfl, by rw [e0]; exact World.ownsRow_nil _ _ _ _, ?_, ?_, ?_, ?_, ?_, ?_⟩
    · simp [go_sem]
    · simp [go_sem]
    · simp [go_sem]
    · simp [go_sem]
    · exact Below.alloc (Below.alloc (Below.alloc (Below.refl _ _) (Nat.le_refl _) _) (by simp) _) (by simp; omega) _
    · simp
  case round =>
    obtain ⟨k, a, c, hk, rfl, rfl, hown, q0, q1, r0, r1, hbel, hsz⟩ := hrel
    by_cases hlt : k < 2
    · obtain ⟨h, any, zs, p, hp, hM, hstep, hzs⟩ := gat_step wr (w.heap.size + 1 + 1) hm am ms p1 hn an ns p2 (H1.out.below hbel) (H2.out.below hbel) r0 r1 k hlt
      rw [← HG.out] at hstep
      have HS : Hid (G (k + 1) = G k ++ (if h then zs else [])) := hstep
      clear hstep
      rcases hM with ⟨rfl, rfl⟩ | ⟨rfl, b, a2, n2, c2, rfl, hc0, hc1, hz, hsh⟩
      · go_wp2_with fail
        go_roundw
        case rel =>
          have e : G (k + 1) = G k := by rw [HS.out]; simp
          refine ⟨k + 1, a, c, by omega, by go_num, by rw [e], by rw [e]; exact hown, q0, q1, r0, r1, hbel, hsz⟩
        case measure => simp [intOf]; omega
      · have HL : Hid ((G k).length + n2 ≤ 1048576) := by
          have e : (G (k + 1)).length = (G k).length + n2 := by rw [HS.out]; simp [hz.1]
          have := gat_len hm ms hn ns (k + 1)
          rw [← HG.out] at this
          have := LT.out
          unfold Hid; omega
        have HE : Hid (G (k + 1) = G k ++ zs ∧ (G (k + 1)).length = (G k).length + n2) := by
          have e : G (k + 1) = G k ++ zs := by rw [HS.out]; simp
          exact ⟨e, by rw [e]; simp [hz.1]⟩
        go_wp2_with (at_builtin; refine wpList_append_held2 rfl _ _ rfl (w.heap.size + 3) _ _ (G k) rfl hown a2 n2 c2 zs rfl hz hsh HL.out hsz ?_; intro a' c' w1 hown' hb')
        go_roundw
        case rel =>
          have hb'' : ∀ b o, b < w.heap.size + 3 → w1.cell? ⟨b, o, none⟩ = wr.cell? ⟨b, o, none⟩ := fun b o hb => hb'.cell (p := ⟨b, o, none⟩) hb
          refine ⟨k + 1, a', c', by omega, by go_num, by rw [HE.out.2], by rw [HE.out.2, HE.out.1]; exact hown', ?_, ?_, ?_, ?_, hbel.trans (hb'.mono (by omega)), Nat.le_trans hsz hb'.size⟩
          · rw [hb'' _ _ (by omega)]; exact q0
          · rw [hb'' _ _ (by omega)]; exact q1
          · rw [hb'' _ _ (by omega)]; exact r0
          · rw [hb'' _ _ (by omega)]; exact r1
        case measure => simp [intOf]; omega
    · obtain rfl : k = 2 := by omega
      have hlen : (G 2).length ≤ 524288 := by
        have := gat_len hm ms hn ns 2
        rw [← HG.out] at this
        have := LT.out
        omega
      have HH : Hid (Holds64 wr a (G 2).length (G 2)) := by
        obtain ⟨x, y, hxy, h, -⟩ := held_of_owns hown (by omega) (fun z hz => by have := HR.out z (by rw [← HG.out]; exact hz); omega)
        simp only [Value.slice.injEq, true_and] at hxy
        rw [hxy.1]; exact h
      have HB : Hid (∀ z ∈ G 2, 0 ≤ z ∧ z ≤ 18446744073709551614) := by rw [HG.out]; exact HR.out
      clear r0 r1
      have hdone : decide ((2 : Int) < 2) = false := by decide
      go_wp2_with fail
      go_loop [8, 46] (fun u i => ∃ k : Nat, k ≤ (G 2).length ∧ i = .int .i64 k ∧ u = .int .u64 (capU ((G 2).take k))) (fun _ i => (G 2).length - (intOf i).toNat)
      case atStart => exact ⟨0, Nat.zero_le _, rfl, rfl⟩
      case round =>
        obtain ⟨k, hk, rfl, rfl⟩ := hrel
        by_cases hlt : k < (G 2).length
        · obtain ⟨b, off, hab, hcc⟩ : ∃ b off, a = some ⟨b, off, none⟩ ∧ ∀ i, i < (G 2).length → wr.cell? ⟨b, off + i, none⟩ = some (.int .u64 ((G 2).getD i 0)) := by
            rcases HH.out.2.2.2 with h | h
            · omega
            · exact h
          subst hab
          have hcell : wr.cell? ⟨b, off + k, none⟩ = some (.int .u64 (G 2)[k]) := by rw [hcc k hlt]; simp [List.getD, hlt]
          have hbd := HB.out _ (List.getElem_mem hlt)
          clear hcc hown q0 q1
          go_wp2_with fail
          go_round
          case rel => exact ⟨k + 1, by omega, by go_num, cap_step hlt⟩
          case measure => simp [intOf]; omega
        · have ek : (G 2).take k = G 2 := List.take_of_length_le (by omega)
          have HK : Hid ((G 2).take k = G 2) := ek
          clear ek
          have HC : Hid (0 ≤ capU ((G 2).take k) ∧ capU ((G 2).take k) ≤ 18446744073709551615) := by rw [HK.out]; exact capU_range _ HB.out
          have ho2 := hown.alloc (.cells #[.int .u64 (capU ((G 2).take k))] 22)
          go_wp2_with (at_builtin; refine wpList_append_held2 rfl _ _ rfl (w.heap.size + 3) _ _ (G 2) rfl ho2 (some ⟨wr.heap.size, 0, none⟩) 1 1 [capU ((G 2).take k)] rfl (one_held wr _ HC.out) (fun h => by cases h) (by omega) (by simp; omega) ?_; intro a' c' w1 hown' hb')
          have hbw : Below w.heap.size w w1 := (hbel.alloc hbel.size _).trans (hb'.mono (by omega))
          have Q0 : w1.cell? ⟨w.heap.size + 1, 0, none⟩ = some (.pointer p1) := by
            rw [hb'.cell (p := ⟨w.heap.size + 1, 0, none⟩) (by simp)]; exact cell_alloc q0 _
          have Q1 : w1.cell? ⟨w.heap.size + 1, 1, none⟩ = some (.pointer p2) := by
            rw [hb'.cell (p := ⟨w.heap.size + 1, 1, none⟩) (by simp)]; exact cell_alloc q1 _
          have HQ : Hid (∀ w', Below w1.heap.size w1 w' → ∀ v, Calls Try.prog 32 #[.int .u64 v, .pointer (some ⟨w.heap.size + 1, 0, none⟩)] w' fun e w'' => e = .returned (.bool (askB hm am ms hn an ns v)) ∧ Below w'.heap.size w' w'') := by
            intro w' hb v
            have hbw' : Below w.heap.size w w' := hbw.trans (hb.mono hbw.size)
            exact closure_any (w.heap.size + 1) hm am ms p1 hn an ns p2 v w' (by rw [hb.cell (p := ⟨w.heap.size + 1, 0, none⟩) (cell_block Q0), Q0]) (by rw [hb.cell (p := ⟨w.heap.size + 1, 1, none⟩) (cell_block Q1), Q1]) (H1.out.below hbw') (H2.out.below hbw')
          have HZ : Holds64 w1 a' ((G 2).length + 1) (G 2 ++ [capU ((G 2).take k)]) := by
            obtain ⟨x, y, hxy, h, -⟩ := held_of_owns hown' (by omega) (fun z hz => by
              rcases List.mem_append.1 hz with hz | hz
              · have := HB.out z hz; omega
              · rw [List.mem_singleton] at hz; subst hz; exact HC.out)
            simp only [Value.slice.injEq, true_and] at hxy
            rw [hxy.1]; exact h
          clear hown' hb' Q0 Q1 hown ho2 q0 q1
          refine (containsFunc_any _ _ _ _ (askB hm am ms hn an ns) (w.heap.size + 1) _ HZ HQ).mono ?_
          rintro e w' ⟨rfl, hbx⟩
          go_wp2_with fail
          go_ret
          exact ⟨ret_bool (by rw [HK.out]; go_light; simp), hbw.trans (hbx.mono hbw.size)⟩

set_option maxHeartbeats 1600000 in
theorem mayHold_any (set : Bool) (s : ByteArray) (ver : Int) (hm am : Bool) (ms : List Int) (p1 : Option Addr) (hn an : Bool) (ns : List Int) (p2 : Option Addr) (w : World) (h1 : MatchAt w hm am ms p1) (h2 : MatchAt w hn an ns p2)
    (l1 : ms.length ≤ 262144) (l2 : ns.length ≤ 262144) (hr : set = true → (ver == 0) = true → ∀ z ∈ gat hm ms hn ns 2, 0 ≤ z ∧ z ≤ 18446744073709551614) :
    Calls Try.prog 27 #[.agg #[.bool set, .string s, .int .u64 ver], .agg #[.pointer p1, .pointer p2]] w fun e w' => e = .returned (.bool (mayB set ver hm am ms hn an ns)) ∧ Below w.heap.size w w' := by
  cases set
  · have HH : Hid (mayB false ver hm am ms hn an ns = holdsAtB hm am ms hn an ns 0) := rfl
    clear hr
    go_enter Try.func27, Try.ntmps27
    go_wp2_with (go_at_call 30; refine (holds_any hm am ms p1 hn an ns p2 0 _ ((h1.alloc _).alloc _) ((h2.alloc _).alloc _)).mono ?_; rintro e w' ⟨rfl, hb⟩)
    go_ret
    exact ⟨ret_bool HH.out.symm, (((Below.refl _ _).alloc (Nat.le_refl _) _).alloc (by simp) _).trans (hb.mono (by simp; omega))⟩
  cases hv : (ver == 0)
  · have HH : Hid (mayB true ver hm am ms hn an ns = holdsAtB hm am ms hn an ns ver) := by unfold Hid mayB; rw [if_neg (by decide), if_pos hv]
    have hv' : (ver != 0) = true := by simp [bne, hv]
    clear hv hr
    go_enter Try.func27, Try.ntmps27
    go_wp2_with (go_at_call 30; refine (holds_any hm am ms p1 hn an ns p2 ver _ ((h1.alloc _).alloc _) ((h2.alloc _).alloc _)).mono ?_; rintro e w' ⟨rfl, hb⟩)
    go_ret
    exact ⟨ret_bool HH.out.symm, (((Below.refl _ _).alloc (Nat.le_refl _) _).alloc (by simp) _).trans (hb.mono (by simp; omega))⟩
  · have HR := hr rfl hv
    obtain rfl : ver = 0 := by simpa using hv
    exact mayHold_unknown s hm am ms p1 hn an ns p2 w h1 h2 l1 l2 HR

set_option maxHeartbeats 1600000 in
theorem zzMayHold_any (set : Bool) (s : ByteArray) (ver : Int) (hm am : Bool) (ms : List Int) (p1 : Option Addr) (hn an : Bool) (ns : List Int) (p2 : Option Addr) (w : World) (h1 : MatchAt w hm am ms p1) (h2 : MatchAt w hn an ns p2)
    (l1 : ms.length ≤ 262144) (l2 : ns.length ≤ 262144) (hr : Hid (set = true → (ver == 0) = true → ∀ z ∈ gat hm ms hn ns 2, 0 ≤ z ∧ z ≤ 18446744073709551614)) :
    Calls Try.prog 14 #[.bool set, .string s, .int .u64 ver, .agg #[.pointer p1, .pointer p2]] w fun e w' => e = .returned (.bool (mayB set ver hm am ms hn an ns)) ∧ Below w.heap.size w w' := by
  go_enter Try.func14, Try.ntmps14
  go_wp2_with (go_at_call 27; refine (mayHold_any set s ver hm am ms p1 hn an ns p2 _ (h1.alloc _) (h2.alloc _) l1 l2 hr.out).mono ?_; rintro e w' ⟨rfl, hb⟩)
  go_ret
  exact ⟨rfl, ((Below.refl _ _).alloc (Nat.le_refl _) _).trans (hb.mono (by simp))⟩

end Go.Proofs.Qxb6600422a
