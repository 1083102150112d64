/-
  THE WALK of FnValueLenWalksObjectMembers.
-/
import Derived.Test.Qxb6601186aJsG
namespace Go.Proofs.Qxb6601186a
open Go.RowKit

set_option maxHeartbeats 400000 in
theorem moBytes_any (s : ByteArray) (w : World) (hs : s.size ≤ maxLen) :
    Calls Try.prog 15 #[.string s] w fun e w' => e = .returned (.bool (decide (s.size ≤ 1048576))) ∧ w' = w := by
  unfold maxLen at hs
  by_cases h : s.size ≤ 1048576
  · have E : Hid (decide (s.size ≤ 1048576) = true) := by unfold Hid; simpa using h
    go_enter Try.func15, Try.ntmps15
    go_wp2
    go_ret
    exact ⟨rb E.out.symm, rfl⟩
  · have E : Hid (decide (s.size ≤ 1048576) = false) := by unfold Hid; simpa using h
    go_enter Try.func15, Try.ntmps15
    go_wp2
    go_ret
    exact ⟨rb E.out.symm, rfl⟩

/-- valueLen at a member's key. -/
theorem key_len (s : ByteArray) (j k : Nat) (hs : s.size ≤ 1048576) (h : StrAt (bt s) j k) (W : World) :
    Calls Try.prog 38 #[.string (s.extract j s.size)] W fun e w' => e = .returned (.int .i64 ((k - j : Nat) : Int)) ∧ w' = W := by
  refine vlen_string (s.extract j s.size) (k - j) W (by simp; omega) ?_
  rw [bt_extract]
  exact h.shift

/-- valueLen at a member's value, which a comma or the closing brace follows. -/
theorem val_len (s : ByteArray) (j m : Nat) (hs : s.size ≤ 1048576) (h : Val (bt s) j m) (hm : m < s.size) (he : bt s m = 44 ∨ bt s m = 125) (W : World) :
    Calls Try.prog 38 #[.string (s.extract j s.size)] W fun e w' => e = .returned (.int .i64 ((m - j : Nat) : Int)) ∧ w' = W := by
  have hlt := h.1
  obtain ⟨-, -, h | h | h⟩ := h
  · exact key_len s j m hs h W
  · refine vlen_box (s.extract j s.size) (m - j) W (by simp; omega) (by simp; omega) ?_
    rw [bt_extract]
    obtain ⟨h1, h2, h3, h4⟩ := h
    refine ⟨h1, by omega, ?_, fun d hd => ?_⟩
    · show bt s (j + (m - j - 1)) = 125 ∨ bt s (j + (m - j - 1)) = 93
      rw [show j + (m - j - 1) = m - 1 from by omega]
      exact h3
    · obtain ⟨f, hf⟩ := h4 d hd
      refine ⟨f, Scan.shift j (j := 1) (j' := m - j - 1) ?_⟩
      rw [show j + (m - j - 1) = m - 1 from by omega]
      exact hf
  · refine vlen_plain (s.extract j s.size) (m - j) W (by simp; omega) (by omega) (by simp; omega) ?_ ?_
    · rw [bt_extract]
      intro k h1 h2
      exact h (j + k) (by omega) (by omega)
    · rw [bt_extract]
      show bt s (j + (m - j)) = 44 ∨ bt s (j + (m - j)) = 125
      rw [show j + (m - j) = m from by omega]
      exact he

theorem Mem.inside {s : ByteArray} : ∀ {f j n : Nat}, Mem (bt s) f j n → n ≤ s.size
  | f + 1, j, n, ⟨k, m, h1, h2, h3, h4⟩ => by
    rcases h4 with ⟨h4, rfl⟩ | ⟨_, h4⟩
    · have := bt_in (s := s) (j := m) (by omega); omega
    · exact Mem.inside h4

set_option maxRecDepth 100000 in
set_option maxHeartbeats 3200000 in
theorem mo_walk (s : ByteArray) (w : World) (hs : s.size ≤ maxLen) :
    Calls Try.prog 5 #[.string s] w fun e w' => e = .returned (.bool true) ∧ Drawn w w' := by
  by_cases hbig : s.size ≤ 1048576
  case neg =>
    have hd : decide (s.size ≤ 1048576) = false := by simpa using hbig
    clear hbig
    go_enter Try.func5, Try.ntmps5
    go_wp2_with (go_at_call 15; refine (moBytes_any s _ hs).mono ?_; rintro e w' ⟨rfl, hw'⟩; rw [hw']; clear hw')
    go_ret
    exact ⟨rfl, Drawn.refl _⟩
  have hd : decide (s.size ≤ 1048576) = true := by simpa using hbig
  by_cases h16 : s.size ≤ 65536
  case neg =>
    go_enter Try.func5, Try.ntmps5
    go_wp2_with (go_at_call 15; refine (moBytes_any s _ hs).mono ?_; rintro e w' ⟨rfl, hw'⟩; rw [hw']; clear hw')
    go_ret
    exact ⟨rfl, Drawn.refl _⟩
  by_cases h2 : 2 ≤ s.size
  case neg =>
    go_enter Try.func5, Try.ntmps5
    go_wp2_with (go_at_call 15; refine (moBytes_any s _ hs).mono ?_; rintro e w' ⟨rfl, hw'⟩; rw [hw']; clear hw')
    go_ret
    exact ⟨rfl, Drawn.refl _⟩
  obtain ⟨c, hc⟩ : ∃ c, c = bt s 0 := ⟨_, rfl⟩
  have ec : ∀ h, ((s[0]'h).toNat : Int) = c := fun h => by rw [hc]; exact bt_at h
  have HC : Hid (c = bt s 0) := hc
  clear hc
  by_cases h123 : c = 123
  case neg =>
    have g1 : (c != 123) = true := by simpa [bne] using h123
    clear h123
    go_enter Try.func5, Try.ntmps5
    go_wp2_with (go_at_call 15; refine (moBytes_any s _ hs).mono ?_; rintro e w' ⟨rfl, hw'⟩; rw [hw']; clear hw')
    go_ret
    exact ⟨rfl, Drawn.refl _⟩
  subst h123
  have VA : Hid (ValC s 0) := value_all s hbig (s.size + 1) 0 (by omega)
  have d1 : decide ((65536 : Int) < (s.size : Int)) = false := by rw [decide_eq_false_iff_not]; omega
  have d2 : decide ((s.size : Int) < 2) = false := by rw [decide_eq_false_iff_not]; omega
  go_enter Try.func5, Try.ntmps5
  go_wp2_with (go_at_call 15; refine (moBytes_any s _ hs).mono ?_; rintro e w' ⟨rfl, hw'⟩; rw [hw']; clear hw')
  refine Calls.mono (VA.out _) ?_
  rintro e w1 ⟨he, hD⟩
  rcases he with rfl | ⟨n, rfl, hn, hval, hob⟩
  · have g1 : ((-1 : Int) != (s.size : Int)) = true := by rw [bne_iff_ne]; omega
    go_wp2_with fail
    go_ret
    exact ⟨rfl, hD⟩
  by_cases he : n = s.size
  case neg =>
    have g1 : ((n : Int) != (s.size : Int)) = true := by rw [bne_iff_ne]; omega
    clear he hval hob
    go_wp2_with fail
    go_ret
    exact ⟨rfl, hD⟩
  have g1 : ((n : Int) != (s.size : Int)) = false := by rw [he]; simp [bne]
  have HO : Hid (ObjM (bt s) 0 s.size) := by rw [← he]; exact hob HC.out.symm
  clear he hval hob VA
  obtain ⟨x, hx⟩ : ∃ x, x = bt s 1 := ⟨_, rfl⟩
  have ex : ∀ h, ((s[1]'h).toNat : Int) = x := fun h => by rw [hx]; exact bt_at h
  have HX : Hid (x = bt s 1) := hx
  clear hx
  by_cases h125 : x = 125
  · have hsz : s.size = 2 := by
      rcases HO.out with ⟨-, h⟩ | ⟨f, hf⟩
      · omega
      · exfalso
        match f, hf with
        | f + 1, ⟨k, m, h1, _⟩ =>
          have := h1.1
          rw [show (0 + 1 : Nat) = 1 from rfl, ← HX.out] at this
          omega
    have g2 : ((s.size : Int) == 2) = true := by rw [hsz]; rfl
    subst h125
    clear hsz
    go_wp2_with fail
    go_ret
    exact ⟨rb (by first | rfl | exact g2), hD⟩
  have g2 : (x == 125) = false := by simpa using h125
  have HM : Hid (∃ f, Mem (bt s) f 1 s.size) := by
    rcases HO.out with ⟨h, -⟩ | h
    · exfalso; rw [show (0 + 1 : Nat) = 1 from rfl, ← HX.out] at h; exact h125 h
    · exact h
  clear h125 HO
  go_wp2_with fail
  go_loop [3, 4] (fun i _ => ∃ J f : Nat, i = .int .i64 J ∧ 1 ≤ J ∧ Mem (bt s) f J s.size) (fun i _ => s.size - (intOf i).toNat)
  case atStart =>
    obtain ⟨f, hf⟩ := HM.out
    exact ⟨1, f, rfl, Nat.le_refl _, hf⟩
  case round =>
    obtain ⟨J, f, rfl, hJ, hmem⟩ := hrel
    clear HM ex HX ec HC
    cases f with
    | zero => exact absurd hmem (fun h => h)
    | succ f =>
      obtain ⟨k, m, h1, h58, hv, hend⟩ := hmem
      have hJk := h1.lt.1
      have hkm := hv.1
      have hms : m < s.size := by
        rcases hend with ⟨_, h⟩ | ⟨h, hmm⟩
        · omega
        · exact bt_in (by omega)
      obtain ⟨a, rfl⟩ : ∃ a, k = J + a := ⟨k - J, by omega⟩
      obtain ⟨b, rfl⟩ : ∃ b, m = J + a + 1 + b := ⟨m - (J + a + 1), by omega⟩
      have e1 : ∀ h, ((s[J]'h).toNat : Int) = 34 := fun h => by rw [bt_at h]; exact h1.1
      have e2 : ∀ h, ((s[J + a]'h).toNat : Int) = 58 := fun h => by rw [bt_at h]; exact h58
      have K1 : Hid (∀ W, Calls Try.prog 38 #[.string (s.extract J s.size)] W fun e w' => e = .returned (.int .i64 (a : Int)) ∧ w' = W) := by
        intro W
        have := key_len s J (J + a) hbig h1 W
        rw [show J + a - J = a from by omega] at this
        exact this
      have K2 : Hid (∀ W, Calls Try.prog 38 #[.string (s.extract (J + a + 1) s.size)] W fun e w' => e = .returned (.int .i64 (b : Int)) ∧ w' = W) := by
        intro W
        have := val_len s (J + a + 1) (J + a + 1 + b) hbig hv hms (by rcases hend with ⟨h, _⟩ | ⟨h, _⟩; exact .inr h; exact .inl h) W
        rw [show J + a + 1 + b - (J + a + 1) = b from by omega] at this
        exact this
      clear h1 h58 hv
      rcases hend with ⟨h, hl⟩ | ⟨h, hmm⟩
      · have e3 : ∀ h, ((s[J + a + 1 + b]'h).toNat : Int) = 125 := fun h' => by rw [bt_at h']; exact h
        have g3 : (((J : Int) + (a : Int) + 1 + (b : Int)) == ((s.size : Int) - 1)) = true := by rw [beq_iff_eq]; omega
        clear h hl
        go_wp2_with fail
        refine (zzVlen _ a _ K1).mono ?_
        rintro e w' ⟨rfl, hw'⟩
        rw [hw']
        clear hw'
        go_wp2_with fail
        refine (zzVlen _ b _ K2).mono ?_
        rintro e w' ⟨rfl, hw'⟩
        rw [hw']
        clear hw'
        go_wp2_with fail
        go_ret
        exact ⟨rb (by first | rfl | exact g3), hD⟩
      · have e3 : ∀ h, ((s[J + a + 1 + b]'h).toNat : Int) = 44 := fun h' => by rw [bt_at h']; exact h
        have HMM : Hid (Mem (bt s) f (J + a + 1 + b + 1) s.size) := hmm
        clear h hmm
        go_wp2_with fail
        refine (zzVlen _ a _ K1).mono ?_
        rintro e w' ⟨rfl, hw'⟩
        rw [hw']
        clear hw'
        go_wp2_with fail
        refine (zzVlen _ b _ K2).mono ?_
        rintro e w' ⟨rfl, hw'⟩
        rw [hw']
        clear hw'
        go_wp2_with fail
        go_round
        case rel => exact ⟨J + a + 1 + b + 1, f, by go_num, by omega, HMM.out⟩
        case measure => simp [intOf]; omega

end Go.Proofs.Qxb6601186a
