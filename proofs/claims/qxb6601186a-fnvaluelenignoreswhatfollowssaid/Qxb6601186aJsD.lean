/-
  THE WALKS of valueLen: at a string, at a bracket, at a plain value.
-/
import Derived.Test.Qxb6601186aJsA
namespace Go.Proofs.Qxb6601186a
open Go.RowKit

theorem bt_extract (s : ByteArray) (i : Nat) : bt (s.extract i s.size) = fun k => bt s (i + k) := by
  funext k
  unfold bt
  by_cases h : i + k < s.size
  · have h1 : k < (s.extract i s.size).size := by simp; omega
    rw [dif_pos h1, dif_pos h]
    simp [ByteArray.getElem_extract]
  · have h1 : ¬ k < (s.extract i s.size).size := by simp; omega
    rw [dif_neg h1, dif_neg h]
theorem bt_append (v t : ByteArray) (k : Nat) (h : k < v.size) : bt (v ++ t) k = bt v k := by
  unfold bt
  have h1 : k < (v ++ t).size := by simp; omega
  rw [dif_pos h1, dif_pos h]
  simp [ByteArray.getElem_append_left, h]

set_option maxHeartbeats 800000 in
theorem vlen_string (s : ByteArray) (n : Nat) (w : World) (hs : s.size ≤ 1048576) (h : StrAt (bt s) 0 n) :
    Calls Try.prog 38 #[.string s] w fun e w' => e = .returned (.int .i64 n) ∧ w' = w := by
  obtain ⟨h34, f, hf⟩ := h
  have hl := hf.lt
  have hn : n ≤ s.size := by have := bt_in hl.2; omega
  have h0 : 0 < s.size := by omega
  have e0 : ∀ h, ((s[0]'h).toNat : Int) = 34 := fun h => by rw [bt_at h, h34]
  have HF : Hid (StrB (bt s) f (0 + 1) n) := hf
  clear hf h34
  go_enter Try.func38, Try.ntmps38
  go_wp2
  go_loop [3] (fun i => ∃ (j f : Nat), i = .int .i64 j ∧ 1 ≤ j ∧ StrB (bt s) f j n) (fun i => n - (intOf i).toNat)
  case atStart => exact ⟨1, f, rfl, Nat.le_refl _, HF.out⟩
  case round =>
    obtain ⟨j, f', rfl, hj1, hB⟩ := hrel
    have hjl := hB.lt.1
    have hjs : j < s.size := by omega
    obtain ⟨x, hx⟩ : ∃ x, x = bt s j := ⟨_, rfl⟩
    have ex : ∀ h, ((s[j]'h).toNat : Int) = x := fun h => by rw [hx]; exact bt_at h
    cases f' with
    | zero => exact absurd hB (fun h => h)
    | succ g =>
      obtain ⟨-, hB⟩ := hB
      rw [← hx] at hB
      clear hx
      rcases hB with ⟨h1, h2⟩ | ⟨h1, h2, h3⟩ | ⟨h1, h3⟩
      · have HN : Hid (n = j + 1) := h2
        have g1 : (x != 34) = false := by simpa [bne] using h1
        clear h1 h2
        go_wp2
        go_ret
        exact ⟨by rw [HN.out]; go_num, rfl⟩
      · have g1 : (x != 34) = true := by simpa [bne] using h1
        have g2 : (x == 92) = false := by simpa using h2
        have HB : Hid (StrB (bt s) g (j + 1) n) := h3
        have hjn := h3.lt.1
        clear h1 h2 h3
        go_wp2
        go_round
        case rel => exact ⟨j + 1, g, by go_num, by omega, HB.out⟩
        case measure => simp [intOf]; omega
      · have g1 : (x != 34) = true := by rw [h1]; rfl
        have g2 : (x == 92) = true := by rw [h1]; rfl
        have HB : Hid (StrB (bt s) g (j + 2) n) := h3
        have hjn := h3.lt.1
        clear h1 h3
        go_wp2
        go_round
        case rel => exact ⟨j + 2, g, by go_num, by omega, HB.out⟩
        case measure => simp [intOf]; omega

set_option maxHeartbeats 1600000 in
theorem vlen_box_123 (s : ByteArray) (n : Nat) (w : World) (hs : s.size ≤ 1048576) (hb : bt s 0 = 123) (hn1 : 1 < n) (hn : n ≤ s.size) (hcl : bt s (n - 1) = 125 ∨ bt s (n - 1) = 93) (hsc : ∃ f, Scan (bt s) f 0 0 (n - 1) 1) :
    Calls Try.prog 38 #[.string s] w fun e w' => e = .returned (.int .i64 n) ∧ w' = w := by
  obtain ⟨f, hf⟩ := hsc
  have h0 : 0 < s.size := by omega
  have e0 : ∀ h, ((s[0]'h).toNat : Int) = 123 := fun h => by rw [bt_at h, hb]
  have HF : Hid (Scan (bt s) f 0 0 (n - 1) 1) := hf
  have HCL : Hid (bt s (n - 1) = 125 ∨ bt s (n - 1) = 93) := hcl
  clear hf hb hcl
  go_enter Try.func38, Try.ntmps38
  go_wp2
  go_loop [4, 5] (fun dp i => ∃ (j d f : Nat), dp = .int .i64 d ∧ i = .int .i64 j ∧ d ≤ j ∧ Scan (bt s) f j d (n - 1) 1) (fun _ i => n - (intOf i).toNat)
  case atStart => exact ⟨0, 0, f, rfl, rfl, Nat.le_refl _, HF.out⟩
  case round =>
    obtain ⟨j, d, f', rfl, rfl, hdj, hS⟩ := hrel
    have hjn := hS.le
    have hjs : j < s.size := by omega
    obtain ⟨x, hx⟩ : ∃ x, x = bt s j := ⟨_, rfl⟩
    have ex : ∀ h, ((s[j]'h).toNat : Int) = x := fun h => by rw [hx]; exact bt_at h
    have HX : Hid (x = bt s j) := hx
    clear hx HF
    cases f' with
    | zero =>
      obtain ⟨hj, hd⟩ := hS
      subst hd
      have HJ : Hid (n = j + 1) := by unfold Hid; omega
      have hc : x = 125 ∨ x = 93 := by rw [HX.out, hj]; exact HCL.out
      clear hj
      rcases hc with h | h
      · subst h
        go_wp2_with fail
        go_ret
        exact ⟨by rw [HJ.out]; go_num, rfl⟩
      · subst h
        go_wp2_with fail
        go_ret
        exact ⟨by rw [HJ.out]; go_num, rfl⟩
    | succ g =>
      obtain ⟨j1, d1, hst, hS1⟩ := hS
      have hj1 := hst.lt
      have hj1n := hS1.le
      rcases hst with ⟨hd, hstr⟩ | ⟨ho, hd, hj⟩ | ⟨hc, hd, hd1, hj⟩ | ⟨_, c1, c2, c3, c4, c5, hd, hj⟩
      · subst hd
        obtain ⟨k, rfl⟩ : ∃ k, j1 = j + k := ⟨j1 - j, by omega⟩
        have HS1 : Hid (Scan (bt s) g (j + k) d1 (n - 1) 1) := hS1
        have hx34 : x = 34 := by rw [HX.out]; exact hstr.1
        have VC : Hid (∀ W, Calls Try.prog 38 #[.string (s.extract j s.size)] W fun e w' => e = .returned (.int .i64 k) ∧ w' = W) := by
          intro W
          refine vlen_string (s.extract j s.size) k W (by simp; omega) ?_
          rw [bt_extract]
          have := hstr.shift
          rw [show j + k - j = k from by omega] at this
          exact this
        clear hS1 hstr
        subst hx34
        go_wp2_with (go_at_call 38; refine Calls.mono (VC.out _) ?_; rintro e w' ⟨rfl, hw'⟩; rw [hw']; clear hw')
        go_round
        case rel => exact ⟨j + k, d1, g, rfl, by go_num, by omega, HS1.out⟩
        case measure => simp [intOf]; omega
      · subst hd hj
        have HS1 : Hid (Scan (bt s) g (j + 1) (d + 1) (n - 1) 1) := hS1
        rw [← HX.out] at ho
        clear hS1
        rcases ho with h | h
        · subst h
          go_wp2_with fail
          go_round
          case rel => exact ⟨j + 1, d + 1, g, by go_num, by go_num, by omega, HS1.out⟩
          case measure => simp [intOf]; omega
        · subst h
          go_wp2_with fail
          go_round
          case rel => exact ⟨j + 1, d + 1, g, by go_num, by go_num, by omega, HS1.out⟩
          case measure => simp [intOf]; omega
      · subst hd hj
        have HS1 : Hid (Scan (bt s) g (j + 1) d1 (n - 1) 1) := hS1
        rw [← HX.out] at hc
        clear hS1
        rcases hc with h | h
        · subst h
          go_wp2_with fail
          go_round
          case rel => exact ⟨j + 1, d1, g, by go_num, by go_num, by omega, HS1.out⟩
          case measure => simp [intOf]; omega
        · subst h
          go_wp2_with fail
          go_round
          case rel => exact ⟨j + 1, d1, g, by go_num, by go_num, by omega, HS1.out⟩
          case measure => simp [intOf]; omega
      · subst hd hj
        have HS1 : Hid (Scan (bt s) g (j + 1) d1 (n - 1) 1) := hS1
        rw [← HX.out] at c1 c2 c3 c4 c5
        have g1 : (x == 34) = false := by simpa using c1
        have g2 : (x == 123) = false := by simpa using c2
        have g3 : (x == 91) = false := by simpa using c3
        have g4 : (x == 125) = false := by simpa using c4
        have g5 : (x == 93) = false := by simpa using c5
        clear hS1 c1 c2 c3 c4 c5
        go_wp2_with fail
        go_round
        case rel => exact ⟨j + 1, d1, g, rfl, by go_num, by omega, HS1.out⟩
        case measure => simp [intOf]; omega

set_option maxHeartbeats 1600000 in
theorem vlen_box_91 (s : ByteArray) (n : Nat) (w : World) (hs : s.size ≤ 1048576) (hb : bt s 0 = 91) (hn1 : 1 < n) (hn : n ≤ s.size) (hcl : bt s (n - 1) = 125 ∨ bt s (n - 1) = 93) (hsc : ∃ f, Scan (bt s) f 0 0 (n - 1) 1) :
    Calls Try.prog 38 #[.string s] w fun e w' => e = .returned (.int .i64 n) ∧ w' = w := by
  obtain ⟨f, hf⟩ := hsc
  have h0 : 0 < s.size := by omega
  have e0 : ∀ h, ((s[0]'h).toNat : Int) = 91 := fun h => by rw [bt_at h, hb]
  have HF : Hid (Scan (bt s) f 0 0 (n - 1) 1) := hf
  have HCL : Hid (bt s (n - 1) = 125 ∨ bt s (n - 1) = 93) := hcl
  clear hf hb hcl
  go_enter Try.func38, Try.ntmps38
  go_wp2
  go_loop [4, 5] (fun dp i => ∃ (j d f : Nat), dp = .int .i64 d ∧ i = .int .i64 j ∧ d ≤ j ∧ Scan (bt s) f j d (n - 1) 1) (fun _ i => n - (intOf i).toNat)
  case atStart => exact ⟨0, 0, f, rfl, rfl, Nat.le_refl _, HF.out⟩
  case round =>
    obtain ⟨j, d, f', rfl, rfl, hdj, hS⟩ := hrel
    have hjn := hS.le
    have hjs : j < s.size := by omega
    obtain ⟨x, hx⟩ : ∃ x, x = bt s j := ⟨_, rfl⟩
    have ex : ∀ h, ((s[j]'h).toNat : Int) = x := fun h => by rw [hx]; exact bt_at h
    have HX : Hid (x = bt s j) := hx
    clear hx HF
    cases f' with
    | zero =>
      obtain ⟨hj, hd⟩ := hS
      subst hd
      have HJ : Hid (n = j + 1) := by unfold Hid; omega
      have hc : x = 125 ∨ x = 93 := by rw [HX.out, hj]; exact HCL.out
      clear hj
      rcases hc with h | h
      · subst h
        go_wp2_with fail
        go_ret
        exact ⟨by rw [HJ.out]; go_num, rfl⟩
      · subst h
        go_wp2_with fail
        go_ret
        exact ⟨by rw [HJ.out]; go_num, rfl⟩
    | succ g =>
      obtain ⟨j1, d1, hst, hS1⟩ := hS
      have hj1 := hst.lt
      have hj1n := hS1.le
      rcases hst with ⟨hd, hstr⟩ | ⟨ho, hd, hj⟩ | ⟨hc, hd, hd1, hj⟩ | ⟨_, c1, c2, c3, c4, c5, hd, hj⟩
      · subst hd
        obtain ⟨k, rfl⟩ : ∃ k, j1 = j + k := ⟨j1 - j, by omega⟩
        have HS1 : Hid (Scan (bt s) g (j + k) d1 (n - 1) 1) := hS1
        have hx34 : x = 34 := by rw [HX.out]; exact hstr.1
        have VC : Hid (∀ W, Calls Try.prog 38 #[.string (s.extract j s.size)] W fun e w' => e = .returned (.int .i64 k) ∧ w' = W) := by
          intro W
          refine vlen_string (s.extract j s.size) k W (by simp; omega) ?_
          rw [bt_extract]
          have := hstr.shift
          rw [show j + k - j = k from by omega] at this
          exact this
        clear hS1 hstr
        subst hx34
        go_wp2_with (go_at_call 38; refine Calls.mono (VC.out _) ?_; rintro e w' ⟨rfl, hw'⟩; rw [hw']; clear hw')
        go_round
        case rel => exact ⟨j + k, d1, g, rfl, by go_num, by omega, HS1.out⟩
        case measure => simp [intOf]; omega
      · subst hd hj
        have HS1 : Hid (Scan (bt s) g (j + 1) (d + 1) (n - 1) 1) := hS1
        rw [← HX.out] at ho
        clear hS1
        rcases ho with h | h
        · subst h
          go_wp2_with fail
          go_round
          case rel => exact ⟨j + 1, d + 1, g, by go_num, by go_num, by omega, HS1.out⟩
          case measure => simp [intOf]; omega
        · subst h
          go_wp2_with fail
          go_round
          case rel => exact ⟨j + 1, d + 1, g, by go_num, by go_num, by omega, HS1.out⟩
          case measure => simp [intOf]; omega
      · subst hd hj
        have HS1 : Hid (Scan (bt s) g (j + 1) d1 (n - 1) 1) := hS1
        rw [← HX.out] at hc
        clear hS1
        rcases hc with h | h
        · subst h
          go_wp2_with fail
          go_round
          case rel => exact ⟨j + 1, d1, g, by go_num, by go_num, by omega, HS1.out⟩
          case measure => simp [intOf]; omega
        · subst h
          go_wp2_with fail
          go_round
          case rel => exact ⟨j + 1, d1, g, by go_num, by go_num, by omega, HS1.out⟩
          case measure => simp [intOf]; omega
      · subst hd hj
        have HS1 : Hid (Scan (bt s) g (j + 1) d1 (n - 1) 1) := hS1
        rw [← HX.out] at c1 c2 c3 c4 c5
        have g1 : (x == 34) = false := by simpa using c1
        have g2 : (x == 123) = false := by simpa using c2
        have g3 : (x == 91) = false := by simpa using c3
        have g4 : (x == 125) = false := by simpa using c4
        have g5 : (x == 93) = false := by simpa using c5
        clear hS1 c1 c2 c3 c4 c5
        go_wp2_with fail
        go_round
        case rel => exact ⟨j + 1, d1, g, rfl, by go_num, by omega, HS1.out⟩
        case measure => simp [intOf]; omega

theorem Box.top {b : Nat → Int} {n : Nat} (h : Box b 0 n) : ∃ f, Scan b f 0 0 (n - 1) 1 := by
  obtain ⟨ho, hn, hc, hs⟩ := h
  obtain ⟨f, hf⟩ := hs 1 (Nat.le_refl _)
  exact ⟨1 + f, (Scan.one (.inr (.inl ⟨ho, rfl, rfl⟩))).trans hf⟩

theorem vlen_box (s : ByteArray) (n : Nat) (w : World) (hs : s.size ≤ 1048576) (hn : n ≤ s.size) (h : Box (bt s) 0 n) :
    Calls Try.prog 38 #[.string s] w fun e w' => e = .returned (.int .i64 n) ∧ w' = w := by
  have ht := h.top
  obtain ⟨ho, hn1, hc, -⟩ := h
  rcases ho with ho | ho
  · exact vlen_box_123 s n w hs ho (by omega) hn hc ht
  · exact vlen_box_91 s n w hs ho (by omega) hn hc ht

set_option maxHeartbeats 800000 in
theorem vlen_plain (s : ByteArray) (n : Nat) (w : World) (hs : s.size ≤ 1048576) (hn0 : 0 < n) (hn : n < s.size) (h : Plain (bt s) 0 n) (hend : bt s n = 44 ∨ bt s n = 125) :
    Calls Try.prog 38 #[.string s] w fun e w' => e = .returned (.int .i64 n) ∧ w' = w := by
  have h0 : 0 < s.size := by omega
  obtain ⟨y, hy⟩ : ∃ y, y = bt s 0 := ⟨_, rfl⟩
  have e0 : ∀ h, ((s[0]'h).toNat : Int) = y := fun h => by rw [hy]; exact bt_at h
  obtain ⟨-, c1, c2, c3, -, -, -⟩ := h 0 (by omega) hn0
  rw [← hy] at c1 c2 c3
  have k1 : (y == 34) = false := by simpa using c1
  have k2 : (y == 123) = false := by simpa using c2
  have k3 : (y == 91) = false := by simpa using c3
  have HP : Hid (Plain (bt s) 0 n) := h
  have HE : Hid (bt s n = 44 ∨ bt s n = 125) := hend
  clear hy c1 c2 c3 h hend
  go_enter Try.func38, Try.ntmps38
  go_wp2_with fail
  go_loop [6] (fun i => ∃ j : Nat, i = .int .i64 j ∧ j ≤ n) (fun i => n - (intOf i).toNat)
  case atStart => exact ⟨0, rfl, by omega⟩
  case round =>
    obtain ⟨j, rfl, hj⟩ := hrel
    have hjs : j < s.size := by omega
    obtain ⟨x, hx⟩ : ∃ x, x = bt s j := ⟨_, rfl⟩
    have ex : ∀ h, ((s[j]'h).toNat : Int) = x := fun h => by rw [hx]; exact bt_at h
    by_cases hlt : j < n
    · obtain ⟨-, -, -, -, c4, -, c6⟩ := HP.out j (by omega) hlt
      rw [← hx] at c4 c6
      have g1 : (x != 44) = true := by simpa [bne] using c6
      have g2 : (x != 125) = true := by simpa [bne] using c4
      clear hx c4 c6
      go_wp2_with fail
      go_round
      case rel => exact ⟨j + 1, by go_num, by omega⟩
      case measure => simp [intOf]; omega
    · obtain rfl : j = n := by omega
      have hc := HE.out
      rw [← hx] at hc
      clear hx
      rcases hc with h | h
      · subst h
        go_wp2_with fail
        go_ret
        exact ⟨rfl, rfl⟩
      · subst h
        go_wp2_with fail
        go_ret
        exact ⟨rfl, rfl⟩

set_option maxHeartbeats 400000 in
theorem zzVlen (s : ByteArray) (n : Nat) (w : World) (h : Hid (∀ W, Calls Try.prog 38 #[.string s] W fun e w' => e = .returned (.int .i64 n) ∧ w' = W)) :
    Calls Try.prog 13 #[.string s] w fun e w' => e = .returned (.int .i64 n) ∧ w' = w := by
  go_enter Try.func13, Try.ntmps13
  go_wp2_with (go_at_call 38; refine Calls.mono (h.out _) ?_; rintro e w' ⟨rfl, rfl⟩)
  go_ret
  exact ⟨rfl, rfl⟩

end Go.Proofs.Qxb6601186a
