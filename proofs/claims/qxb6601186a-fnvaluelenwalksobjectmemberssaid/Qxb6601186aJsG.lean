/-
  THE WALK of FnValueLenIgnoresWhatFollows.
-/
import Derived.Test.Qxb6601186aJsF
import Derived.Test.Qxb6601186aJsD
namespace Go.Proofs.Qxb6601186a
open Go.RowKit

theorem Drawn.grown {w w' : World} (h : Drawn w w') : Grown w w' := by
  obtain ⟨k, rfl⟩ := h
  exact Grown.refl w

set_option maxHeartbeats 400000 in
theorem igBytes_any (v t : ByteArray) (w : World) (hv : v.size ≤ maxLen) (ht : t.size ≤ maxLen) :
    Calls Try.prog 14 #[.string v, .string t] w fun e w' => e = .returned (.bool (decide (v.size + t.size ≤ 1048576))) ∧ w' = w := by
  unfold maxLen at hv ht
  rcases (show 1048576 < v.size ∨ (v.size ≤ 1048576 ∧ 1048576 < t.size) ∨ (v.size ≤ 1048576 ∧ t.size ≤ 1048576 ∧ 1048576 < v.size + t.size) ∨ v.size + t.size ≤ 1048576 from by omega) with h | ⟨g1, h⟩ | ⟨g1, g2, h⟩ | h
  iterate 3
    · have E : Hid (decide (v.size + t.size ≤ 1048576) = false) := by unfold Hid; simp; omega
      go_enter Try.func14, Try.ntmps14
      go_wp2
      go_ret
      exact ⟨rb E.out.symm, rfl⟩
  · have E : Hid (decide (v.size + t.size ≤ 1048576) = true) := by unfold Hid; simpa using h
    have g1 : v.size ≤ 1048576 := by omega
    have g2 : t.size ≤ 1048576 := by omega
    go_enter Try.func14, Try.ntmps14
    go_wp2
    go_ret
    exact ⟨rb E.out.symm, rfl⟩

/-- A value that opens with a quote or a bracket is found whole, whatever follows it. -/
theorem vlen_follows (v t : ByteArray) (hs : v.size + t.size ≤ 1048576) (ho : opnB (bt v 0) = true) (hv : Val (bt v) 0 v.size) (W : World) :
    Calls Try.prog 38 #[.string (v ++ t)] W fun e w' => e = .returned (.int .i64 v.size) ∧ w' = W := by
  have ha : ∀ k, k < v.size → bt (v ++ t) k = bt v k := fun k hk => bt_append v t k hk
  have hsz : (v ++ t).size = v.size + t.size := by simp
  obtain ⟨hlt, -, h | h | h⟩ := hv
  · exact vlen_string (v ++ t) v.size W (by omega) (h.agree ha)
  · refine vlen_box (v ++ t) v.size W (by omega) (by omega) ?_
    obtain ⟨h1, h2, h3, h4⟩ := h
    refine ⟨by rw [ha 0 (by omega)]; exact h1, h2, by rw [ha (v.size - 1) (by omega)]; exact h3, fun d hd => ?_⟩
    obtain ⟨f, hf⟩ := h4 d hd
    exact ⟨f, hf.agree (fun k hk => ha k (by omega))⟩
  · exfalso
    obtain ⟨-, c1, c2, c3, -⟩ := h 0 (Nat.le_refl _) hlt
    unfold opnB at ho
    simp at ho
    omega

set_option maxHeartbeats 800000 in
theorem ig_walk (v t : ByteArray) (w : World) (hv : v.size ≤ maxLen) (ht : t.size ≤ maxLen) :
    Calls Try.prog 4 #[.string v, .string t] w fun e w' => e = .returned (.bool true) ∧ Drawn w w' := by
  by_cases hbig : v.size + t.size ≤ 1048576
  case neg =>
    have hd : decide (v.size + t.size ≤ 1048576) = false := by simpa using hbig
    clear hbig
    go_enter Try.func4, Try.ntmps4
    go_wp2_with (go_at_call 14; refine (igBytes_any v t _ hv ht).mono ?_; rintro e w' ⟨rfl, hw'⟩; rw [hw']; clear hw')
    go_ret
    exact ⟨rfl, Drawn.refl _⟩
  have hd : decide (v.size + t.size ≤ 1048576) = true := by simpa using hbig
  by_cases hv1 : v.size ≤ 65536
  case neg =>
    go_enter Try.func4, Try.ntmps4
    go_wp2_with (go_at_call 14; refine (igBytes_any v t _ hv ht).mono ?_; rintro e w' ⟨rfl, hw'⟩; rw [hw']; clear hw')
    go_ret
    exact ⟨rfl, Drawn.refl _⟩
  by_cases ht1 : t.size ≤ 65536
  case neg =>
    go_enter Try.func4, Try.ntmps4
    go_wp2_with (go_at_call 14; refine (igBytes_any v t _ hv ht).mono ?_; rintro e w' ⟨rfl, hw'⟩; rw [hw']; clear hw')
    go_ret
    exact ⟨rfl, Drawn.refl _⟩
  by_cases hv0 : 0 < v.size
  case neg =>
    have hz : v.size = 0 := by omega
    have g0 : ((v.size : Int) == 0) = true := by simpa using hz
    clear hz
    go_enter Try.func4, Try.ntmps4
    go_wp2_with (go_at_call 14; refine (igBytes_any v t _ hv ht).mono ?_; rintro e w' ⟨rfl, hw'⟩; rw [hw']; clear hw')
    go_ret
    exact ⟨rfl, Drawn.refl _⟩
  have g0 : ((v.size : Int) == 0) = false := by rw [beq_eq_false_iff_ne]; omega
  obtain ⟨c, hc⟩ : ∃ c, c = bt v 0 := ⟨_, rfl⟩
  have ec : ∀ h, ((v[0]'h).toNat : Int) = c := fun h => by rw [hc]; exact bt_at h
  have HC : Hid (c = bt v 0) := hc
  clear hc
  cases hop : opnB c
  · go_enter Try.func4, Try.ntmps4
    go_wp2_with (first | (go_at_call 14; refine (igBytes_any v t _ hv ht).mono ?_; rintro e w' ⟨rfl, hw'⟩; rw [hw']; clear hw') | (go_at_call 12; refine (jvOpens_any c _).mono ?_; rintro e w' ⟨rfl, hw'⟩; rw [hw']; clear hw'))
    go_ret
    exact ⟨rfl, Drawn.refl _⟩
  · have VA : Hid (ValC v 0) := value_all v (by omega) (v.size + 1) 0 (by omega)
    go_enter Try.func4, Try.ntmps4
    go_wp2_with (first | (go_at_call 14; refine (igBytes_any v t _ hv ht).mono ?_; rintro e w' ⟨rfl, hw'⟩; rw [hw']; clear hw') | (go_at_call 12; refine (jvOpens_any c _).mono ?_; rintro e w' ⟨rfl, hw'⟩; rw [hw']; clear hw'))
    refine Calls.mono (VA.out _) ?_
    rintro e w1 ⟨he, hD⟩
    rcases he with rfl | ⟨n, rfl, hn, hval, -⟩
    · have g1 : ((-1 : Int) != (v.size : Int)) = true := by rw [bne_iff_ne]; omega
      go_wp2_with fail
      go_ret
      exact ⟨rfl, hD⟩
    · by_cases he : n = v.size
      case neg =>
        have g1 : ((n : Int) != (v.size : Int)) = true := by simp [bne]; omega
        clear he hval
        go_wp2_with fail
        go_ret
        exact ⟨rfl, hD⟩
      have g1 : ((n : Int) != (v.size : Int)) = false := by simp [bne]; omega
      have HN : Hid (n = v.size) := he
      have VL : Hid (∀ W, Calls Try.prog 38 #[.string (v ++ t)] W fun e w' => e = .returned (.int .i64 v.size) ∧ w' = W) :=
        vlen_follows v t hbig (by rw [← HC.out]; exact hop) (by rw [← HN.out]; rw [HN.out] at hval ⊢; exact hval)
      clear he hval
      go_wp2_with (go_at_call 13; refine (zzVlen (v ++ t) v.size _ VL).mono ?_; rintro e w' ⟨rfl, hw'⟩; rw [hw']; clear hw')
      go_ret
      exact ⟨rb (by simp), hD⟩

end Go.Proofs.Qxb6601186a
