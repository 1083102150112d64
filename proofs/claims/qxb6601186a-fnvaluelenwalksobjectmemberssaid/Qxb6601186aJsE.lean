/-
  THE WALKS of jvB1Array, jvB1Object, jvB1Value.
-/
import Derived.Test.Qxb6601186aJsB
namespace Go.Proofs.Qxb6601186a
open Go.RowKit

def ObjM (b : Nat → Int) (i n : Nat) : Prop := (b (i + 1) = 125 ∧ n = i + 2) ∨ ∃ f, Mem b f (i + 1) n
/-- What is proved of jvB1Value at place i. -/
def ValC (s : ByteArray) (i : Nat) : Prop := ∀ w, Calls Try.prog 11 #[.string s, .int .i64 i] w fun e w' =>
  (e = .returned (.int .i64 (-1)) ∨ ∃ n : Nat, e = .returned (.int .i64 n) ∧ n ≤ s.size ∧ Val (bt s) i n ∧ (bt s i = 123 → ObjM (bt s) i n)) ∧ Drawn w w'

/-- The scan has come from behind the bracket to J, at every depth. -/
def Over (b : Nat → Int) (i J : Nat) : Prop := ∀ d, 1 ≤ d → ∃ f, Scan b f (i + 1) d J d
theorem Over.start (b : Nat → Int) (i : Nat) : Over b i (i + 1) := fun _ _ => ⟨0, rfl, rfl⟩
theorem Over.val {b : Nat → Int} {i J n : Nat} (h : Over b i J) (hv : Val b J n) : Over b i n := by
  intro d hd
  obtain ⟨f, hf⟩ := h d hd
  obtain ⟨g, hg⟩ := hv.scan d hd
  exact ⟨f + g, hf.trans hg⟩
theorem Over.str {b : Nat → Int} {i J n : Nat} (h : Over b i J) (hv : StrAt b J n) : Over b i n := by
  intro d hd
  obtain ⟨f, hf⟩ := h d hd
  exact ⟨f + 1, hf.trans (Scan.one (.inl ⟨rfl, hv⟩))⟩
theorem Over.byte {b : Nat → Int} {i J : Nat} (h : Over b i J) (hc : b J = 44 ∨ b J = 58) : Over b i (J + 1) := by
  intro d hd
  obtain ⟨f, hf⟩ := h d hd
  exact ⟨f + 1, hf.trans (Scan.one (.inr (.inr (.inr ⟨by omega, by omega, by omega, by omega, by omega, by omega, rfl, rfl⟩))))⟩
theorem Over.box {b : Nat → Int} {i J : Nat} (h : Over b i J) (ho : b i = 123 ∨ b i = 91) (hJ : i < J) (hc : b J = 125 ∨ b J = 93) : Box b i (J + 1) :=
  ⟨ho, by omega, hc, h⟩
theorem Box.val {b : Nat → Int} {i n : Nat} (h : Box b i n) : Val b i n := ⟨by have := h.2.1; omega, by rcases h.2.2.1 with h | h <;> omega, .inr (.inl h)⟩

set_option maxHeartbeats 1600000 in
theorem array_any (s : ByteArray) (i : Nat) (w : World) (hs : s.size ≤ 1048576) (hi : i < s.size) (h91 : bt s i = 91) (HV : Hid (∀ j, i < j → ValC s j)) :
    Calls Try.prog 34 #[.string s, .int .i64 i] w fun e w' => (e = .returned (.int .i64 (-1)) ∨ ∃ n : Nat, e = .returned (.int .i64 n) ∧ n ≤ s.size ∧ Box (bt s) i n) ∧ Drawn w w' := by
  have H91 : Hid (bt s i = 91) := h91
  clear h91
  obtain ⟨x, hx⟩ : ∃ x, x = bt s (i + 1) := ⟨_, rfl⟩
  have ex : ∀ h, ((s[i + 1]'h).toNat : Int) = x := fun h => by rw [hx]; exact bt_at h
  have HX : Hid (x = bt s (i + 1)) := hx
  clear hx
  by_cases hq : i + 1 < s.size ∧ x = 93
  · obtain ⟨h1, h2⟩ := hq
    have HB : Hid (Box (bt s) i (i + 1 + 1)) := (Over.start _ _).box (.inr H91.out) (by omega) (.inr (by rw [← HX.out]; exact h2))
    subst h2
    go_enter Try.func34, Try.ntmps34
    go_wp2_with fail
    go_ret
    exact ⟨.inr ⟨i + 1 + 1, by go_num, by omega, HB.out⟩, Drawn.refl _⟩
  · have hq' : (i + 1 < s.size ∧ (x == 93) = false) ∨ ¬ i + 1 < s.size := by
      by_cases h1 : i + 1 < s.size
      · left; exact ⟨h1, by simp; omega⟩
      · exact .inr h1
    clear hq
    have HQ : (i + 1 < s.size ∧ (x == 93) = false) ∨ ¬ i + 1 < s.size := hq'
    clear hq'
    rcases HQ with ⟨q1, q2⟩ | q1
    all_goals
      go_enter Try.func34, Try.ntmps34
      go_wp2_with fail
      go_loopw [5] (fun j wr => ∃ J : Nat, j = .int .i64 J ∧ i < J ∧ J ≤ s.size ∧ Over (bt s) i J ∧ Drawn w wr) (fun j _ => s.size - (intOf j).toNat)
      case atStart => exact ⟨i + 1, by go_num, by omega, by omega, Over.start _ _, Drawn.refl _⟩
      case round =>
        obtain ⟨J, rfl, hJ1, hJ2, hO, hD⟩ := hrel
        have HO : Hid (Over (bt s) i J) := hO
        clear hO
        go_wp2_with fail
        refine Calls.mono (HV.out J hJ1 wr) ?_
        rintro e w1 ⟨he, hD1⟩
        have HD : Drawn w w1 := hD.trans hD1
        rcases he with rfl | ⟨n, rfl, hn, hv, -⟩
        · go_wp2_with fail
          go_ret
          exact ⟨.inl rfl, HD⟩
        · have HO2 : Hid (Over (bt s) i n) := HO.out.val hv
          have hJn : J < n := hv.1
          clear hv
          by_cases hlt : n < s.size
          · obtain ⟨y, hy⟩ : ∃ y, y = bt s n := ⟨_, rfl⟩
            have ey : ∀ h, ((s[n]'h).toNat : Int) = y := fun h => by rw [hy]; exact bt_at h
            have HY : Hid (y = bt s n) := hy
            clear hy
            rcases (show y = 93 ∨ y = 44 ∨ (y ≠ 93 ∧ y ≠ 44) from by omega) with h | h | ⟨h1, h2⟩
            · have HB : Hid (Box (bt s) i (n + 1)) := HO2.out.box (.inr H91.out) (by omega) (.inr (by rw [← HY.out]; exact h))
              subst h
              go_wp2_with fail
              all_goals
                go_ret
                exact ⟨.inr ⟨n + 1, by go_num, by omega, HB.out⟩, HD⟩
            · have HO3 : Hid (Over (bt s) i (n + 1)) := HO2.out.byte (.inl (by rw [← HY.out]; exact h))
              subst h
              go_wp2_with fail
              all_goals
                go_roundw
                case rel => exact ⟨n + 1, by go_num, by omega, by omega, HO3.out, HD⟩
                case measure => simp [intOf]; omega
            · have g1 : (y == 93) = false := by simpa using h1
              have g2 : (y != 44) = true := by simpa [bne] using h2
              clear h1 h2
              go_wp2_with fail
              all_goals
                go_ret
                exact ⟨.inl rfl, HD⟩
          · go_wp2_with fail
            all_goals
              go_ret
              exact ⟨.inl rfl, HD⟩

/-- What the object's loop has proved so far. -/
def ContM (b : Nat → Int) (i J : Nat) : Prop := ∀ n, (∃ f, Mem b f J n) → ∃ f, Mem b f (i + 1) n
theorem ContM.start (b : Nat → Int) (i : Nat) : ContM b i (i + 1) := fun _ h => h
theorem ContM.more {b : Nat → Int} {i J k m : Nat} (h : ContM b i J) (h1 : StrAt b J k) (h2 : b k = 58) (h3 : Val b (k + 1) m) (h4 : b m = 44) : ContM b i (m + 1) :=
  fun n ⟨f, hf⟩ => h n ⟨f + 1, k, m, h1, h2, h3, .inr ⟨h4, hf⟩⟩
theorem ContM.close {b : Nat → Int} {i J k m : Nat} (h : ContM b i J) (h1 : StrAt b J k) (h2 : b k = 58) (h3 : Val b (k + 1) m) (h4 : b m = 125) : ∃ f, Mem b f (i + 1) (m + 1) :=
  h (m + 1) ⟨1, k, m, h1, h2, h3, .inl ⟨h4, rfl⟩⟩

set_option maxHeartbeats 3200000 in
theorem object_any (s : ByteArray) (i : Nat) (w : World) (hs : s.size ≤ 1048576) (hi : i < s.size) (h123 : bt s i = 123) (HV : Hid (∀ j, i < j → ValC s j)) :
    Calls Try.prog 33 #[.string s, .int .i64 i] w fun e w' => (e = .returned (.int .i64 (-1)) ∨ ∃ n : Nat, e = .returned (.int .i64 n) ∧ n ≤ s.size ∧ Box (bt s) i n ∧ ObjM (bt s) i n) ∧ Drawn w w' := by
  have H123 : Hid (bt s i = 123) := h123
  clear h123
  obtain ⟨x, hx⟩ : ∃ x, x = bt s (i + 1) := ⟨_, rfl⟩
  have ex : ∀ h, ((s[i + 1]'h).toNat : Int) = x := fun h => by rw [hx]; exact bt_at h
  have HX : Hid (x = bt s (i + 1)) := hx
  clear hx
  by_cases hq : i + 1 < s.size ∧ x = 125
  · obtain ⟨h1, h2⟩ := hq
    have HB : Hid (Box (bt s) i (i + 1 + 1) ∧ ObjM (bt s) i (i + 1 + 1)) :=
      ⟨(Over.start _ _).box (.inl H123.out) (by omega) (.inl (by rw [← HX.out]; exact h2)), .inl ⟨by rw [← HX.out]; exact h2, rfl⟩⟩
    subst h2
    go_enter Try.func33, Try.ntmps33
    go_wp2_with fail
    go_ret
    exact ⟨.inr ⟨i + 1 + 1, by go_num, by omega, HB.out⟩, Drawn.refl _⟩
  · have HQ : (i + 1 < s.size ∧ (x == 125) = false) ∨ ¬ i + 1 < s.size := by
      by_cases h1 : i + 1 < s.size
      · left; exact ⟨h1, by simp; omega⟩
      · exact .inr h1
    clear hq
    rcases HQ with ⟨q1, q2⟩ | q1
    rotate_left
    · -- nothing behind the bracket
      go_enter Try.func33, Try.ntmps33
      go_wp2_with fail
      refine wp_loop_rounds 1 ?_
      rw [rounds_succ]
      go_wp2_with fail
      go_ret
      exact ⟨.inl rfl, Drawn.refl _⟩
    go_enter Try.func33, Try.ntmps33
    go_wp2_with fail
    go_loopw [5] (fun j wr => ∃ J : Nat, j = .int .i64 J ∧ i < J ∧ J ≤ s.size ∧ Over (bt s) i J ∧ ContM (bt s) i J ∧ Drawn w wr) (fun j _ => s.size - (intOf j).toNat)
    case atStart => exact ⟨i + 1, by go_num, by omega, by omega, Over.start _ _, ContM.start _ _, Drawn.refl _⟩
    case round =>
      obtain ⟨J, rfl, hJ1, hJ2, hO, hM, hD⟩ := hrel
      have HO : Hid (Over (bt s) i J) := hO
      have HM : Hid (ContM (bt s) i J) := hM
      clear hO hM q2
      by_cases hJs : J < s.size
      case neg =>
        go_wp2_with fail
        go_ret
        exact ⟨.inl rfl, hD⟩
      obtain ⟨c, hc⟩ : ∃ c, c = bt s J := ⟨_, rfl⟩
      have ec : ∀ h, ((s[J]'h).toNat : Int) = c := fun h => by rw [hc]; exact bt_at h
      have HC : Hid (c = bt s J) := hc
      clear hc
      by_cases hc34 : c = 34
      case neg =>
        have g1 : (c != 34) = true := by simpa [bne] using hc34
        clear hc34
        go_wp2_with fail
        go_ret
        exact ⟨.inl rfl, hD⟩
      subst hc34
      go_wp2_with fail
      refine (string_any s J _ hs hJs HC.out.symm).mono ?_
      rintro e w1 ⟨he, hw1⟩
      rw [hw1]
      clear hw1
      rcases he with rfl | ⟨k, rfl, hstr, hk⟩
      · go_wp2_with fail
        go_ret
        exact ⟨.inl rfl, hD⟩
      have hJk := hstr.lt.1
      have HST : Hid (StrAt (bt s) J k) := hstr
      clear hstr
      by_cases hks : k < s.size
      case neg =>
        go_wp2_with fail
        go_ret
        exact ⟨.inl rfl, hD⟩
      obtain ⟨y, hy⟩ : ∃ y, y = bt s k := ⟨_, rfl⟩
      have ey : ∀ h, ((s[k]'h).toNat : Int) = y := fun h => by rw [hy]; exact bt_at h
      have HY : Hid (y = bt s k) := hy
      clear hy
      by_cases hy58 : y = 58
      case neg =>
        have g1 : (y != 58) = true := by simpa [bne] using hy58
        clear hy58
        go_wp2_with fail
        go_ret
        exact ⟨.inl rfl, hD⟩
      subst hy58
      have hcall : ∀ W, Calls Try.prog 11 #[.string s, .int .i64 ((k : Int) + 1)] W fun e w' =>
          (e = .returned (.int .i64 (-1)) ∨ ∃ n : Nat, e = .returned (.int .i64 n) ∧ n ≤ s.size ∧ Val (bt s) (k + 1) n ∧ (bt s (k + 1) = 123 → ObjM (bt s) (k + 1) n)) ∧ Drawn W w' := by
        intro W
        have := HV.out (k + 1) (by omega) W
        rw [show (((k + 1 : Nat)) : Int) = (k : Int) + 1 from by omega] at this
        exact this
      have HCL : Hid (∀ W, Calls Try.prog 11 #[.string s, .int .i64 ((k : Int) + 1)] W fun e w' =>
          (e = .returned (.int .i64 (-1)) ∨ ∃ n : Nat, e = .returned (.int .i64 n) ∧ n ≤ s.size ∧ Val (bt s) (k + 1) n ∧ (bt s (k + 1) = 123 → ObjM (bt s) (k + 1) n)) ∧ Drawn W w') := hcall
      clear hcall
      go_wp2_with fail
      refine Calls.mono (HCL.out _) ?_
      rintro e w2 ⟨he, hD2⟩
      have HD : Drawn w w2 := hD.trans hD2
      clear hD hD2 HCL
      rcases he with rfl | ⟨m, rfl, hm, hv, -⟩
      · go_wp2_with fail
        go_ret
        exact ⟨.inl rfl, HD⟩
      have hkm := hv.1
      have HVV : Hid (Val (bt s) (k + 1) m) := hv
      clear hv
      by_cases hms : m < s.size
      case neg =>
        go_wp2_with fail
        go_ret
        exact ⟨.inl rfl, HD⟩
      have HO2 : Hid (Over (bt s) i m) := ((HO.out.str HST.out).byte (.inr HY.out.symm)).val HVV.out
      obtain ⟨z, hz⟩ : ∃ z, z = bt s m := ⟨_, rfl⟩
      have ez : ∀ h, ((s[m]'h).toNat : Int) = z := fun h => by rw [hz]; exact bt_at h
      have HZ : Hid (z = bt s m) := hz
      clear hz
      rcases (show z = 125 ∨ z = 44 ∨ (z ≠ 125 ∧ z ≠ 44) from by omega) with h | h | ⟨h1, h2⟩
      · have HB : Hid (Box (bt s) i (m + 1) ∧ ObjM (bt s) i (m + 1)) :=
          ⟨HO2.out.box (.inl H123.out) (by omega) (.inl (by rw [← HZ.out]; exact h)), .inr (HM.out.close HST.out HY.out.symm HVV.out (by rw [← HZ.out]; exact h))⟩
        subst h
        go_wp2_with fail
        go_ret
        exact ⟨.inr ⟨m + 1, by go_num, by omega, HB.out⟩, HD⟩
      · have HO3 : Hid (Over (bt s) i (m + 1) ∧ ContM (bt s) i (m + 1)) :=
          ⟨HO2.out.byte (.inl (by rw [← HZ.out]; exact h)), HM.out.more HST.out HY.out.symm HVV.out (by rw [← HZ.out]; exact h)⟩
        subst h
        go_wp2_with fail
        go_roundw
        case rel => exact ⟨m + 1, by go_num, by omega, by omega, HO3.out.1, HO3.out.2, HD⟩
        case measure => simp [intOf]; omega
      · have g1 : (z == 125) = false := by simpa using h1
        have g2 : (z != 44) = true := by simpa [bne] using h2
        clear h1 h2
        go_wp2_with fail
        go_ret
        exact ⟨.inl rfl, HD⟩

end Go.Proofs.Qxb6601186a
