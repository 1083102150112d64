/-
  THE WALK of jvB1Number.
-/
import Derived.Test.Qxb6601186aJsB
import Derived.Deep.DeepCutAuto
namespace Go.Proofs.Qxb6601186a
open Go.RowKit

theorem Plain.nil (b : Nat → Int) (i : Nat) : Plain b i i := fun j h1 h2 => by omega
theorem Plain.snoc {b : Nat → Int} {i n : Nat} (h : Plain b i n) (hc : PlainC (b n)) : Plain b i (n + 1) := by
  intro j h1 h2
  by_cases e : j = n
  · subst e; exact hc
  · exact h j h1 (by omega)
theorem digB_plain {c : Int} (h : digB c = true) : PlainC c := by
  unfold digB at h
  unfold PlainC
  simp at h
  omega
theorem num_plain {c : Int} (h : c = 45 ∨ c = 43 ∨ c = 46 ∨ c = 101 ∨ c = 69 ∨ c = 48) : PlainC c := by
  unfold PlainC
  omega

theorem dot_of {y b : Int} (h : y = b) (hd : (y == 46) = true) : b = 45 ∨ b = 43 ∨ b = 46 ∨ b = 101 ∨ b = 69 ∨ b = 48 := by
  have : y = 46 := by simpa using hd
  omega

/-- Where the number's walk stands. -/
def NumAt (s : ByteArray) (i J : Nat) : Prop := i ≤ J ∧ J ≤ s.size ∧ Plain (bt s) i J

set_option maxRecDepth 100000 in
set_option maxHeartbeats 1600000 in
theorem number_any (s : ByteArray) (i : Nat) (w : World) (hs : s.size ≤ 1048576) (hi : i < s.size) :
    Calls Try.prog 37 #[.string s, .int .i64 i] w fun e w' => (e = .returned (.int .i64 (-1)) ∨ ∃ n : Nat, e = .returned (.int .i64 n) ∧ i < n ∧ n ≤ s.size ∧ Plain (bt s) i n) ∧ w' = w := by
  obtain ⟨x, hx⟩ : ∃ x, x = bt s i := ⟨_, rfl⟩
  have ex : ∀ h, ((s[i]'h).toNat : Int) = x := fun h => by rw [hx]; exact bt_at h
  have HX : Hid (x = bt s i) := hx
  clear hx
  go_enter Try.func37, Try.ntmps37
  go_upto_if 16 with fail
  go_cut [5] (fun j W => ∃ J : Nat, j = .int .i64 J ∧ NumAt s i J ∧ W = w)
  case first =>
    cases h45 : (x == 45)
    · go_wp2_with fail
      go_meet
      case rel => exact ⟨i, rfl, ⟨by omega, by omega, Plain.nil _ _⟩, rfl⟩
    · have HP : Hid (Plain (bt s) i (i + 1)) := (Plain.nil _ _).snoc (num_plain (.inl (by rw [← HX.out]; simpa using h45)))
      go_wp2_with fail
      go_meet
      case rel => exact ⟨i + 1, by go_num, ⟨by omega, by omega, HP.out⟩, rfl⟩
  case rest =>
    obtain ⟨J, rfl, ⟨hJ1, hJ2, hP⟩, hw⟩ := hcut
    rw [hw]
    clear hw ex HX
    have HP : Hid (Plain (bt s) i J) := hP
    clear hP
    by_cases hlt : J < s.size
    · obtain ⟨y, hy⟩ : ∃ y, y = bt s J := ⟨_, rfl⟩
      have ey : ∀ h, ((s[J]'h).toNat : Int) = y := fun h => by rw [hy]; exact bt_at h
      have HY : Hid (y = bt s J) := hy
      clear hy
      have n1 : decide (s.size ≤ J) = false := by simpa using hlt
      cases hd : digB y
      · go_wp2_with (go_at_call 36; refine (jvDigit_any y _).mono ?_; rintro e w' ⟨rfl, rfl⟩)
        go_ret
        exact ⟨.inl rfl, rfl⟩
      · have HP1 : Hid (Plain (bt s) i (J + 1)) := HP.out.snoc (by rw [← HY.out]; exact digB_plain hd)
        go_upto_if 33 with (go_at_call 36; refine (jvDigit_any y _).mono ?_; rintro e w' ⟨rfl, hw'⟩; rw [hw']; clear hw')
        go_cut [5] (fun j W => ∃ J : Nat, j = .int .i64 J ∧ i < J ∧ J ≤ s.size ∧ Plain (bt s) i J ∧ W = w)
        case first =>
          cases h48 : (y == 48)
          · have HDJ : Hid (digB (bt s J) = true) := by rw [← HY.out]; exact hd
            have HPL := HP
            go_wp2_with fail
            go_loop [5] (fun j => ∃ J' : Nat, j = .int .i64 J' ∧ J ≤ J' ∧ J' ≤ s.size ∧ Plain (bt s) i J') (fun j => s.size - (intOf j).toNat)
            case atStart => exact ⟨J, by go_num, Nat.le_refl _, by omega, HPL.out⟩
            case round =>
              obtain ⟨J', rfl, g1, g2, g3⟩ := hrel
              have HG : Hid (Plain (bt s) i J') := g3
              clear g3
              by_cases hl' : J' < s.size
              · obtain ⟨z, hz⟩ : ∃ z, z = bt s J' := ⟨_, rfl⟩
                have ez : ∀ h, ((s[J']'h).toNat : Int) = z := fun h => by rw [hz]; exact bt_at h
                have HZ : Hid (z = bt s J') := hz
                clear hz
                cases hdz : digB z
                · have hgt : J < J' := by
                    rcases Nat.lt_or_eq_of_le g1 with h | h
                    · exact h
                    · exfalso
                      have := HDJ.out
                      rw [h, ← HZ.out, hdz] at this
                      cases this
                  go_wp2_with (go_at_call 36; refine (jvDigit_any z _).mono ?_; rintro e w' ⟨rfl, hw'⟩; rw [hw']; clear hw')
                  go_meet
                  case rel => exact ⟨J', rfl, by omega, g2, HG.out, rfl⟩
                · have HD : Hid (PlainC (bt s J')) := by rw [← HZ.out]; exact digB_plain hdz
                  go_wp2_with (go_at_call 36; refine (jvDigit_any z _).mono ?_; rintro e w' ⟨rfl, hw'⟩; rw [hw']; clear hw')
                  go_round
                  case rel => exact ⟨J' + 1, by go_num, by omega, by omega, HG.out.snoc HD.out⟩
                  case measure => simp [intOf]; omega
              · have hgt : J < J' := by omega
                go_wp2_with fail
                go_meet
                case rel => exact ⟨J', rfl, by omega, g2, HG.out, rfl⟩
          · go_wp2_with fail
            go_meet
            case rel => exact ⟨J + 1, by go_num, by omega, by omega, HP1.out, rfl⟩
        case rest =>
          obtain ⟨J2, rfl, hJ3, hJ4, hP2, hw⟩ := hcut
          rw [hw]
          clear hw ey HY hd HP1 HP hlt hJ1 hJ2
          have HP : Hid (Plain (bt s) i J2) := hP2
          clear hP2
          by_cases hlt : J2 < s.size
          case neg =>
            go_wp2_with fail
            go_ret
            exact ⟨.inr ⟨J2, rfl, hJ3, hJ4, HP.out⟩, rfl⟩
          obtain ⟨y, hy⟩ : ∃ y, y = bt s J2 := ⟨_, rfl⟩
          have ey : ∀ h, ((s[J2]'h).toNat : Int) = y := fun h => by rw [hy]; exact bt_at h
          have HY : Hid (y = bt s J2) := hy
          clear hy
          go_upto_if 57 with fail
          go_cut [5] (fun j W => ∃ J : Nat, j = .int .i64 J ∧ i < J ∧ J ≤ s.size ∧ Plain (bt s) i J ∧ W = w)
          case first =>
            · cases hdot : (y == 46)
              · go_wp2_with fail
                go_meet
                case rel => exact ⟨J2, rfl, hJ3, hJ4, HP.out, rfl⟩
              · have HPL : Hid (Plain (bt s) i (J2 + 1)) := HP.out.snoc (num_plain (dot_of HY.out hdot))
                by_cases hl2 : J2 + 1 < s.size
                · obtain ⟨v, hv⟩ : ∃ v, v = bt s (J2 + 1) := ⟨_, rfl⟩
                  have ev : ∀ h, ((s[J2 + 1]'h).toNat : Int) = v := fun h => by rw [hv]; exact bt_at h
                  have HV : Hid (v = bt s (J2 + 1)) := hv
                  clear hv
                  cases hd : digB v
                  · go_wp2_with (go_at_call 36; refine (jvDigit_any v _).mono ?_; rintro e w' ⟨rfl, hw'⟩; rw [hw']; clear hw')
                    go_ret
                    exact ⟨.inl rfl, rfl⟩
                  · have HDJ : Hid (digB (bt s (J2 + 1)) = true) := by rw [← HV.out]; exact hd
                    go_wp2_with (go_at_call 36; refine (jvDigit_any v _).mono ?_; rintro e w' ⟨rfl, hw'⟩; rw [hw']; clear hw')
                    go_loop [5] (fun j => ∃ J' : Nat, j = .int .i64 J' ∧ (J2 + 1) ≤ J' ∧ J' ≤ s.size ∧ Plain (bt s) i J') (fun j => s.size - (intOf j).toNat)
                    case atStart => exact ⟨(J2 + 1), by go_num, Nat.le_refl _, by omega, HPL.out⟩
                    case round =>
                      obtain ⟨J', rfl, g1, g2, g3⟩ := hrel
                      have HG : Hid (Plain (bt s) i J') := g3
                      clear g3
                      by_cases hl' : J' < s.size
                      · obtain ⟨z, hz⟩ : ∃ z, z = bt s J' := ⟨_, rfl⟩
                        have ez : ∀ h, ((s[J']'h).toNat : Int) = z := fun h => by rw [hz]; exact bt_at h
                        have HZ : Hid (z = bt s J') := hz
                        clear hz
                        cases hdz : digB z
                        · have hgt : (J2 + 1) < J' := by
                            rcases Nat.lt_or_eq_of_le g1 with h | h
                            · exact h
                            · exfalso
                              have := HDJ.out
                              rw [h, ← HZ.out, hdz] at this
                              cases this
                          go_wp2_with (go_at_call 36; refine (jvDigit_any z _).mono ?_; rintro e w' ⟨rfl, hw'⟩; rw [hw']; clear hw')
                          go_meet
                          case rel => exact ⟨J', rfl, by omega, g2, HG.out, rfl⟩
                        · have HD : Hid (PlainC (bt s J')) := by rw [← HZ.out]; exact digB_plain hdz
                          go_wp2_with (go_at_call 36; refine (jvDigit_any z _).mono ?_; rintro e w' ⟨rfl, hw'⟩; rw [hw']; clear hw')
                          go_round
                          case rel => exact ⟨J' + 1, by go_num, by omega, by omega, HG.out.snoc HD.out⟩
                          case measure => simp [intOf]; omega
                      · have hgt : (J2 + 1) < J' := by omega
                        go_wp2_with fail
                        go_meet
                        case rel => exact ⟨J', rfl, by omega, g2, HG.out, rfl⟩
                · go_wp2_with fail
                  go_ret
                  exact ⟨.inl rfl, rfl⟩
          case rest =>
            obtain ⟨J3, rfl, hJ5, hJ6, hP3, hw⟩ := hcut
            rw [hw]
            clear hw HP hJ3 hJ4 ey HY hlt
            have HP : Hid (Plain (bt s) i J3) := hP3
            clear hP3
            by_cases hlt : J3 < s.size
            · obtain ⟨y, hy⟩ : ∃ y, y = bt s J3 := ⟨_, rfl⟩
              have ey : ∀ h, ((s[J3]'h).toNat : Int) = y := fun h => by rw [hy]; exact bt_at h
              have HY : Hid (y = bt s J3) := hy
              clear hy
              rcases (show y = 101 ∨ y = 69 ∨ (y ≠ 101 ∧ y ≠ 69) from by omega) with he | he | ⟨he1, he2⟩
              · subst he
                have HPL : Hid (Plain (bt s) i (J3 + 1)) := HP.out.snoc (num_plain (by rw [← HY.out]; omega))
                by_cases hl2 : J3 + 1 < s.size
                case neg =>
                  go_wp2_with fail
                  go_ret
                  exact ⟨.inl rfl, rfl⟩
                have n2 : decide (s.size ≤ J3 + 1) = false := by simpa using hl2
                obtain ⟨v, hv⟩ : ∃ v, v = bt s (J3 + 1) := ⟨_, rfl⟩
                have ev : ∀ h, ((s[J3 + 1]'h).toNat : Int) = v := fun h => by rw [hv]; exact bt_at h
                have HV : Hid (v = bt s (J3 + 1)) := hv
                clear hv
                rcases (show v = 43 ∨ v = 45 ∨ (v ≠ 43 ∧ v ≠ 45) from by omega) with hp | hp | ⟨hp1, hp2⟩
                · subst hp
                  have HPM : Hid (Plain (bt s) i (J3 + 1 + 1)) := HPL.out.snoc (num_plain (by rw [← HV.out]; omega))
                  clear HPL
                  have HPL := HPM
                  clear HPM
                  by_cases hl3 : J3 + 1 + 1 < s.size
                  · obtain ⟨u, hu⟩ : ∃ u, u = bt s (J3 + 1 + 1) := ⟨_, rfl⟩
                    have eu : ∀ h, ((s[J3 + 1 + 1]'h).toNat : Int) = u := fun h => by rw [hu]; exact bt_at h
                    have n3 : decide (s.size ≤ J3 + 1 + 1) = false := by simpa using hl3
                    have HU : Hid (u = bt s (J3 + 1 + 1)) := hu
                    clear hu
                    cases hd : digB u
                    · go_wp2_with (go_at_call 36; refine (jvDigit_any u _).mono ?_; rintro e w' ⟨rfl, hw'⟩; rw [hw']; clear hw')
                      go_ret
                      exact ⟨.inl rfl, rfl⟩
                    · have HDJ : Hid (digB (bt s (J3 + 1 + 1)) = true) := by rw [← HU.out]; exact hd
                      go_wp2_with (go_at_call 36; refine (jvDigit_any u _).mono ?_; rintro e w' ⟨rfl, hw'⟩; rw [hw']; clear hw')
                      go_loop [5] (fun j => ∃ J' : Nat, j = .int .i64 J' ∧ (J3 + 1 + 1) ≤ J' ∧ J' ≤ s.size ∧ Plain (bt s) i J') (fun j => s.size - (intOf j).toNat)
                      case atStart => exact ⟨(J3 + 1 + 1), by go_num, Nat.le_refl _, by omega, HPL.out⟩
                      case round =>
                        obtain ⟨J', rfl, g1, g2, g3⟩ := hrel
                        have HG : Hid (Plain (bt s) i J') := g3
                        clear g3
                        by_cases hl' : J' < s.size
                        · obtain ⟨z, hz⟩ : ∃ z, z = bt s J' := ⟨_, rfl⟩
                          have ez : ∀ h, ((s[J']'h).toNat : Int) = z := fun h => by rw [hz]; exact bt_at h
                          have HZ : Hid (z = bt s J') := hz
                          clear hz
                          cases hdz : digB z
                          · have hgt : (J3 + 1 + 1) < J' := by
                              rcases Nat.lt_or_eq_of_le g1 with h | h
                              · exact h
                              · exfalso
                                have := HDJ.out
                                rw [h, ← HZ.out, hdz] at this
                                cases this
                            go_wp2_with (go_at_call 36; refine (jvDigit_any z _).mono ?_; rintro e w' ⟨rfl, hw'⟩; rw [hw']; clear hw')
                            go_ret
                            exact ⟨.inr ⟨J', rfl, by omega, g2, HG.out⟩, rfl⟩
                          · have HD : Hid (PlainC (bt s J')) := by rw [← HZ.out]; exact digB_plain hdz
                            go_wp2_with (go_at_call 36; refine (jvDigit_any z _).mono ?_; rintro e w' ⟨rfl, hw'⟩; rw [hw']; clear hw')
                            go_round
                            case rel => exact ⟨J' + 1, by go_num, by omega, by omega, HG.out.snoc HD.out⟩
                            case measure => simp [intOf]; omega
                        · have hgt : (J3 + 1 + 1) < J' := by omega
                          go_wp2_with fail
                          go_ret
                          exact ⟨.inr ⟨J', rfl, by omega, g2, HG.out⟩, rfl⟩
                  · go_wp2_with fail
                    go_ret
                    exact ⟨.inl rfl, rfl⟩
                · subst hp
                  have HPM : Hid (Plain (bt s) i (J3 + 1 + 1)) := HPL.out.snoc (num_plain (by rw [← HV.out]; omega))
                  clear HPL
                  have HPL := HPM
                  clear HPM
                  by_cases hl3 : J3 + 1 + 1 < s.size
                  · obtain ⟨u, hu⟩ : ∃ u, u = bt s (J3 + 1 + 1) := ⟨_, rfl⟩
                    have eu : ∀ h, ((s[J3 + 1 + 1]'h).toNat : Int) = u := fun h => by rw [hu]; exact bt_at h
                    have n3 : decide (s.size ≤ J3 + 1 + 1) = false := by simpa using hl3
                    have HU : Hid (u = bt s (J3 + 1 + 1)) := hu
                    clear hu
                    cases hd : digB u
                    · go_wp2_with (go_at_call 36; refine (jvDigit_any u _).mono ?_; rintro e w' ⟨rfl, hw'⟩; rw [hw']; clear hw')
                      go_ret
                      exact ⟨.inl rfl, rfl⟩
                    · have HDJ : Hid (digB (bt s (J3 + 1 + 1)) = true) := by rw [← HU.out]; exact hd
                      go_wp2_with (go_at_call 36; refine (jvDigit_any u _).mono ?_; rintro e w' ⟨rfl, hw'⟩; rw [hw']; clear hw')
                      go_loop [5] (fun j => ∃ J' : Nat, j = .int .i64 J' ∧ (J3 + 1 + 1) ≤ J' ∧ J' ≤ s.size ∧ Plain (bt s) i J') (fun j => s.size - (intOf j).toNat)
                      case atStart => exact ⟨(J3 + 1 + 1), by go_num, Nat.le_refl _, by omega, HPL.out⟩
                      case round =>
                        obtain ⟨J', rfl, g1, g2, g3⟩ := hrel
                        have HG : Hid (Plain (bt s) i J') := g3
                        clear g3
                        by_cases hl' : J' < s.size
                        · obtain ⟨z, hz⟩ : ∃ z, z = bt s J' := ⟨_, rfl⟩
                          have ez : ∀ h, ((s[J']'h).toNat : Int) = z := fun h => by rw [hz]; exact bt_at h
                          have HZ : Hid (z = bt s J') := hz
                          clear hz
                          cases hdz : digB z
                          · have hgt : (J3 + 1 + 1) < J' := by
                              rcases Nat.lt_or_eq_of_le g1 with h | h
                              · exact h
                              · exfalso
                                have := HDJ.out
                                rw [h, ← HZ.out, hdz] at this
                                cases this
                            go_wp2_with (go_at_call 36; refine (jvDigit_any z _).mono ?_; rintro e w' ⟨rfl, hw'⟩; rw [hw']; clear hw')
                            go_ret
                            exact ⟨.inr ⟨J', rfl, by omega, g2, HG.out⟩, rfl⟩
                          · have HD : Hid (PlainC (bt s J')) := by rw [← HZ.out]; exact digB_plain hdz
                            go_wp2_with (go_at_call 36; refine (jvDigit_any z _).mono ?_; rintro e w' ⟨rfl, hw'⟩; rw [hw']; clear hw')
                            go_round
                            case rel => exact ⟨J' + 1, by go_num, by omega, by omega, HG.out.snoc HD.out⟩
                            case measure => simp [intOf]; omega
                        · have hgt : (J3 + 1 + 1) < J' := by omega
                          go_wp2_with fail
                          go_ret
                          exact ⟨.inr ⟨J', rfl, by omega, g2, HG.out⟩, rfl⟩
                  · go_wp2_with fail
                    go_ret
                    exact ⟨.inl rfl, rfl⟩
                · have g1 : (v == 43) = false := by simpa using hp1
                  have g2 : (v == 45) = false := by simpa using hp2
                  clear hp1 hp2
                  cases hd : digB v
                  · go_wp2_with (go_at_call 36; refine (jvDigit_any v _).mono ?_; rintro e w' ⟨rfl, hw'⟩; rw [hw']; clear hw')
                    go_ret
                    exact ⟨.inl rfl, rfl⟩
                  · have HDJ : Hid (digB (bt s (J3 + 1)) = true) := by rw [← HV.out]; exact hd
                    go_wp2_with (go_at_call 36; refine (jvDigit_any v _).mono ?_; rintro e w' ⟨rfl, hw'⟩; rw [hw']; clear hw')
                    go_loop [5] (fun j => ∃ J' : Nat, j = .int .i64 J' ∧ (J3 + 1) ≤ J' ∧ J' ≤ s.size ∧ Plain (bt s) i J') (fun j => s.size - (intOf j).toNat)
                    case atStart => exact ⟨(J3 + 1), by go_num, Nat.le_refl _, by omega, HPL.out⟩
                    case round =>
                      obtain ⟨J', rfl, g1, g2, g3⟩ := hrel
                      have HG : Hid (Plain (bt s) i J') := g3
                      clear g3
                      by_cases hl' : J' < s.size
                      · obtain ⟨z, hz⟩ : ∃ z, z = bt s J' := ⟨_, rfl⟩
                        have ez : ∀ h, ((s[J']'h).toNat : Int) = z := fun h => by rw [hz]; exact bt_at h
                        have HZ : Hid (z = bt s J') := hz
                        clear hz
                        cases hdz : digB z
                        · have hgt : (J3 + 1) < J' := by
                            rcases Nat.lt_or_eq_of_le g1 with h | h
                            · exact h
                            · exfalso
                              have := HDJ.out
                              rw [h, ← HZ.out, hdz] at this
                              cases this
                          go_wp2_with (go_at_call 36; refine (jvDigit_any z _).mono ?_; rintro e w' ⟨rfl, hw'⟩; rw [hw']; clear hw')
                          go_ret
                          exact ⟨.inr ⟨J', rfl, by omega, g2, HG.out⟩, rfl⟩
                        · have HD : Hid (PlainC (bt s J')) := by rw [← HZ.out]; exact digB_plain hdz
                          go_wp2_with (go_at_call 36; refine (jvDigit_any z _).mono ?_; rintro e w' ⟨rfl, hw'⟩; rw [hw']; clear hw')
                          go_round
                          case rel => exact ⟨J' + 1, by go_num, by omega, by omega, HG.out.snoc HD.out⟩
                          case measure => simp [intOf]; omega
                      · have hgt : (J3 + 1) < J' := by omega
                        go_wp2_with fail
                        go_ret
                        exact ⟨.inr ⟨J', rfl, by omega, g2, HG.out⟩, rfl⟩
              · subst he
                have HPL : Hid (Plain (bt s) i (J3 + 1)) := HP.out.snoc (num_plain (by rw [← HY.out]; omega))
                by_cases hl2 : J3 + 1 < s.size
                case neg =>
                  go_wp2_with fail
                  go_ret
                  exact ⟨.inl rfl, rfl⟩
                have n2 : decide (s.size ≤ J3 + 1) = false := by simpa using hl2
                obtain ⟨v, hv⟩ : ∃ v, v = bt s (J3 + 1) := ⟨_, rfl⟩
                have ev : ∀ h, ((s[J3 + 1]'h).toNat : Int) = v := fun h => by rw [hv]; exact bt_at h
                have HV : Hid (v = bt s (J3 + 1)) := hv
                clear hv
                rcases (show v = 43 ∨ v = 45 ∨ (v ≠ 43 ∧ v ≠ 45) from by omega) with hp | hp | ⟨hp1, hp2⟩
                · subst hp
                  have HPM : Hid (Plain (bt s) i (J3 + 1 + 1)) := HPL.out.snoc (num_plain (by rw [← HV.out]; omega))
                  clear HPL
                  have HPL := HPM
                  clear HPM
                  by_cases hl3 : J3 + 1 + 1 < s.size
                  · obtain ⟨u, hu⟩ : ∃ u, u = bt s (J3 + 1 + 1) := ⟨_, rfl⟩
                    have eu : ∀ h, ((s[J3 + 1 + 1]'h).toNat : Int) = u := fun h => by rw [hu]; exact bt_at h
                    have n3 : decide (s.size ≤ J3 + 1 + 1) = false := by simpa using hl3
                    have HU : Hid (u = bt s (J3 + 1 + 1)) := hu
                    clear hu
                    cases hd : digB u
                    · go_wp2_with (go_at_call 36; refine (jvDigit_any u _).mono ?_; rintro e w' ⟨rfl, hw'⟩; rw [hw']; clear hw')
                      go_ret
                      exact ⟨.inl rfl, rfl⟩
                    · have HDJ : Hid (digB (bt s (J3 + 1 + 1)) = true) := by rw [← HU.out]; exact hd
                      go_wp2_with (go_at_call 36; refine (jvDigit_any u _).mono ?_; rintro e w' ⟨rfl, hw'⟩; rw [hw']; clear hw')
                      go_loop [5] (fun j => ∃ J' : Nat, j = .int .i64 J' ∧ (J3 + 1 + 1) ≤ J' ∧ J' ≤ s.size ∧ Plain (bt s) i J') (fun j => s.size - (intOf j).toNat)
                      case atStart => exact ⟨(J3 + 1 + 1), by go_num, Nat.le_refl _, by omega, HPL.out⟩
                      case round =>
                        obtain ⟨J', rfl, g1, g2, g3⟩ := hrel
                        have HG : Hid (Plain (bt s) i J') := g3
                        clear g3
                        by_cases hl' : J' < s.size
                        · obtain ⟨z, hz⟩ : ∃ z, z = bt s J' := ⟨_, rfl⟩
                          have ez : ∀ h, ((s[J']'h).toNat : Int) = z := fun h => by rw [hz]; exact bt_at h
                          have HZ : Hid (z = bt s J') := hz
                          clear hz
                          cases hdz : digB z
                          · have hgt : (J3 + 1 + 1) < J' := by
                              rcases Nat.lt_or_eq_of_le g1 with h | h
                              · exact h
                              · exfalso
                                have := HDJ.out
                                rw [h, ← HZ.out, hdz] at this
                                cases this
                            go_wp2_with (go_at_call 36; refine (jvDigit_any z _).mono ?_; rintro e w' ⟨rfl, hw'⟩; rw [hw']; clear hw')
                            go_ret
                            exact ⟨.inr ⟨J', rfl, by omega, g2, HG.out⟩, rfl⟩
                          · have HD : Hid (PlainC (bt s J')) := by rw [← HZ.out]; exact digB_plain hdz
                            go_wp2_with (go_at_call 36; refine (jvDigit_any z _).mono ?_; rintro e w' ⟨rfl, hw'⟩; rw [hw']; clear hw')
                            go_round
                            case rel => exact ⟨J' + 1, by go_num, by omega, by omega, HG.out.snoc HD.out⟩
                            case measure => simp [intOf]; omega
                        · have hgt : (J3 + 1 + 1) < J' := by omega
                          go_wp2_with fail
                          go_ret
                          exact ⟨.inr ⟨J', rfl, by omega, g2, HG.out⟩, rfl⟩
                  · go_wp2_with fail
                    go_ret
                    exact ⟨.inl rfl, rfl⟩
                · subst hp
                  have HPM : Hid (Plain (bt s) i (J3 + 1 + 1)) := HPL.out.snoc (num_plain (by rw [← HV.out]; omega))
                  clear HPL
                  have HPL := HPM
                  clear HPM
                  by_cases hl3 : J3 + 1 + 1 < s.size
                  · obtain ⟨u, hu⟩ : ∃ u, u = bt s (J3 + 1 + 1) := ⟨_, rfl⟩
                    have eu : ∀ h, ((s[J3 + 1 + 1]'h).toNat : Int) = u := fun h => by rw [hu]; exact bt_at h
                    have n3 : decide (s.size ≤ J3 + 1 + 1) = false := by simpa using hl3
                    have HU : Hid (u = bt s (J3 + 1 + 1)) := hu
                    clear hu
                    cases hd : digB u
                    · go_wp2_with (go_at_call 36; refine (jvDigit_any u _).mono ?_; rintro e w' ⟨rfl, hw'⟩; rw [hw']; clear hw')
                      go_ret
                      exact ⟨.inl rfl, rfl⟩
                    · have HDJ : Hid (digB (bt s (J3 + 1 + 1)) = true) := by rw [← HU.out]; exact hd
                      go_wp2_with (go_at_call 36; refine (jvDigit_any u _).mono ?_; rintro e w' ⟨rfl, hw'⟩; rw [hw']; clear hw')
                      go_loop [5] (fun j => ∃ J' : Nat, j = .int .i64 J' ∧ (J3 + 1 + 1) ≤ J' ∧ J' ≤ s.size ∧ Plain (bt s) i J') (fun j => s.size - (intOf j).toNat)
                      case atStart => exact ⟨(J3 + 1 + 1), by go_num, Nat.le_refl _, by omega, HPL.out⟩
                      case round =>
                        obtain ⟨J', rfl, g1, g2, g3⟩ := hrel
                        have HG : Hid (Plain (bt s) i J') := g3
                        clear g3
                        by_cases hl' : J' < s.size
                        · obtain ⟨z, hz⟩ : ∃ z, z = bt s J' := ⟨_, rfl⟩
                          have ez : ∀ h, ((s[J']'h).toNat : Int) = z := fun h => by rw [hz]; exact bt_at h
                          have HZ : Hid (z = bt s J') := hz
                          clear hz
                          cases hdz : digB z
                          · have hgt : (J3 + 1 + 1) < J' := by
                              rcases Nat.lt_or_eq_of_le g1 with h | h
                              · exact h
                              · exfalso
                                have := HDJ.out
                                rw [h, ← HZ.out, hdz] at this
                                cases this
                            go_wp2_with (go_at_call 36; refine (jvDigit_any z _).mono ?_; rintro e w' ⟨rfl, hw'⟩; rw [hw']; clear hw')
                            go_ret
                            exact ⟨.inr ⟨J', rfl, by omega, g2, HG.out⟩, rfl⟩
                          · have HD : Hid (PlainC (bt s J')) := by rw [← HZ.out]; exact digB_plain hdz
                            go_wp2_with (go_at_call 36; refine (jvDigit_any z _).mono ?_; rintro e w' ⟨rfl, hw'⟩; rw [hw']; clear hw')
                            go_round
                            case rel => exact ⟨J' + 1, by go_num, by omega, by omega, HG.out.snoc HD.out⟩
                            case measure => simp [intOf]; omega
                        · have hgt : (J3 + 1 + 1) < J' := by omega
                          go_wp2_with fail
                          go_ret
                          exact ⟨.inr ⟨J', rfl, by omega, g2, HG.out⟩, rfl⟩
                  · go_wp2_with fail
                    go_ret
                    exact ⟨.inl rfl, rfl⟩
                · have g1 : (v == 43) = false := by simpa using hp1
                  have g2 : (v == 45) = false := by simpa using hp2
                  clear hp1 hp2
                  cases hd : digB v
                  · go_wp2_with (go_at_call 36; refine (jvDigit_any v _).mono ?_; rintro e w' ⟨rfl, hw'⟩; rw [hw']; clear hw')
                    go_ret
                    exact ⟨.inl rfl, rfl⟩
                  · have HDJ : Hid (digB (bt s (J3 + 1)) = true) := by rw [← HV.out]; exact hd
                    go_wp2_with (go_at_call 36; refine (jvDigit_any v _).mono ?_; rintro e w' ⟨rfl, hw'⟩; rw [hw']; clear hw')
                    go_loop [5] (fun j => ∃ J' : Nat, j = .int .i64 J' ∧ (J3 + 1) ≤ J' ∧ J' ≤ s.size ∧ Plain (bt s) i J') (fun j => s.size - (intOf j).toNat)
                    case atStart => exact ⟨(J3 + 1), by go_num, Nat.le_refl _, by omega, HPL.out⟩
                    case round =>
                      obtain ⟨J', rfl, g1, g2, g3⟩ := hrel
                      have HG : Hid (Plain (bt s) i J') := g3
                      clear g3
                      by_cases hl' : J' < s.size
                      · obtain ⟨z, hz⟩ : ∃ z, z = bt s J' := ⟨_, rfl⟩
                        have ez : ∀ h, ((s[J']'h).toNat : Int) = z := fun h => by rw [hz]; exact bt_at h
                        have HZ : Hid (z = bt s J') := hz
                        clear hz
                        cases hdz : digB z
                        · have hgt : (J3 + 1) < J' := by
                            rcases Nat.lt_or_eq_of_le g1 with h | h
                            · exact h
                            · exfalso
                              have := HDJ.out
                              rw [h, ← HZ.out, hdz] at this
                              cases this
                          go_wp2_with (go_at_call 36; refine (jvDigit_any z _).mono ?_; rintro e w' ⟨rfl, hw'⟩; rw [hw']; clear hw')
                          go_ret
                          exact ⟨.inr ⟨J', rfl, by omega, g2, HG.out⟩, rfl⟩
                        · have HD : Hid (PlainC (bt s J')) := by rw [← HZ.out]; exact digB_plain hdz
                          go_wp2_with (go_at_call 36; refine (jvDigit_any z _).mono ?_; rintro e w' ⟨rfl, hw'⟩; rw [hw']; clear hw')
                          go_round
                          case rel => exact ⟨J' + 1, by go_num, by omega, by omega, HG.out.snoc HD.out⟩
                          case measure => simp [intOf]; omega
                      · have hgt : (J3 + 1) < J' := by omega
                        go_wp2_with fail
                        go_ret
                        exact ⟨.inr ⟨J', rfl, by omega, g2, HG.out⟩, rfl⟩
              · have g1 : (y == 101) = false := by simpa using he1
                have g2 : (y == 69) = false := by simpa using he2
                clear he1 he2
                go_wp2_with fail
                go_ret
                exact ⟨.inr ⟨J3, rfl, hJ5, hJ6, HP.out⟩, rfl⟩
            · go_wp2_with fail
              go_ret
              exact ⟨.inr ⟨J3, rfl, hJ5, hJ6, HP.out⟩, rfl⟩
    · go_wp2_with fail
      go_ret
      exact ⟨.inl rfl, rfl⟩

end Go.Proofs.Qxb6601186a
