/-
  THE WALKS: hexEscape, ZZHexEscape.
-/
import Derived.Test.Qxb6601186aHxA
namespace Go.Proofs.Qxb6601186a
open Go.RowKit

/-- A slice value of 'n' bytes 'zs', as it lies in 'w'. -/
def Holds8 (w : World) (a : Option Addr) (n c : Nat) (zs : List Int) : Prop :=
  zs.length = n ∧ n ≤ c ∧ n ≤ 9223372036854775807 ∧ (∀ z ∈ zs, 0 ≤ z ∧ z ≤ 255) ∧
  (n = 0 ∨ ∃ b off, a = some ⟨b, off, none⟩ ∧ ∀ i, i < n → w.cell? ⟨b, off + i, none⟩ = some (.int .u8 (zs.getD i 0)))

def hv (D : Nat → Int) : Nat → Int
  | 0 => 0
  | k + 1 => hv D k * 16 + D k
def okTo (D : Nat → Int) (k : Nat) : Prop := ∀ j, j < k → 0 ≤ D j

theorem hv_range (D : Nat → Int) (hD : ∀ j, D j ≤ 15) (k : Nat) (h : okTo D k) (hk : k ≤ 4) : 0 ≤ hv D k ∧ hv D k ≤ 65535 ∧ (k ≤ 3 → hv D k ≤ 4095) := by
  have h0 := hD 0; have h1 := hD 1; have h2 := hD 2; have h3 := hD 3
  match k, h, hk with
  | 0, _, _ => simp [hv]
  | 1, h, _ => have := h 0 (by omega); simp [hv]; omega
  | 2, h, _ => have := h 0 (by omega); have := h 1 (by omega); simp [hv]; omega
  | 3, h, _ => have := h 0 (by omega); have := h 1 (by omega); have := h 2 (by omega); simp [hv]; omega
  | 4, h, _ => have := h 0 (by omega); have := h 1 (by omega); have := h 2 (by omega); have := h 3 (by omega); simp [hv]; omega

theorem or4 (x y : Int) (h1 : 0 ≤ x) (h2 : x ≤ 4095) (h3 : 0 ≤ y) (h4 : y ≤ 15) : bits .or .i32 (x * 16) y = x * 16 + y :=
  bits_join .i32 31 (by decide) wraps_i32 4 (x * 16) y (by omega) (by omega) (by omega) h3 (by omega) (by omega)

/-- The bytes that open an escape. -/
def opensB (zs : List Int) : Bool := decide (6 ≤ zs.length) && (zs.getD 0 0 == 92) && (zs.getD 1 0 == 117)
def dgt (zs : List Int) (j : Nat) : Int := hexv (zs.getD (2 + j) 0)

theorem hex_step {zs : List Int} {k : Nat} {x R d : Int} (hx : x = zs.getD (2 + k) 0) (hR : R = hv (dgt zs) k) (h1 : 0 ≤ R) (h2 : R ≤ 4095) (hd : hexv x = d) (h3 : 0 ≤ d) (h4 : d ≤ 15) :
    Value.int IntKind.i32 (bits .or .i32 (R * 16) d) = Value.int IntKind.i32 (hv (dgt zs) (k + 1)) := by
  rw [or4 R d h1 h2 h3 h4, hR]
  have : dgt zs k = d := by unfold dgt; rw [← hx, hd]
  show _ = Value.int IntKind.i32 (hv (dgt zs) k * 16 + dgt zs k)
  rw [this]
theorem hex_ok {zs : List Int} {k : Nat} {x d : Int} (hx : x = zs.getD (2 + k) 0) (hok : okTo (dgt zs) k) (hd : hexv x = d) (h3 : 0 ≤ d) : okTo (dgt zs) (k + 1) := by
  intro j hj
  by_cases e : j = k
  · subst e; unfold dgt; rw [← hx, hd]; exact h3
  · exact hok j (by omega)
theorem hex_bad {zs : List Int} {k : Nat} {x : Int} (hk : k < 4) (hx : x = zs.getD (2 + k) 0) (hd : hexv x = -1) : ¬ okTo (dgt zs) 4 := by
  intro h
  have := h k hk
  unfold dgt at this
  rw [← hx, hd] at this
  omega
theorem hexv_a {x : Int} (h : 48 ≤ x ∧ x ≤ 57) : hexv x = x - 48 := by unfold hexv; rw [if_pos h]
theorem hexv_b {x : Int} (h : 97 ≤ x ∧ x ≤ 102) : hexv x = x - 97 + 10 := by unfold hexv; rw [if_neg (by omega), if_pos h]; omega
theorem hexv_c {x : Int} (h : 65 ≤ x ∧ x ≤ 70) : hexv x = x - 65 + 10 := by unfold hexv; rw [if_neg (by omega), if_neg (by omega), if_pos h]; omega
theorem hexv_d {x : Int} (h : x < 48 ∨ (57 < x ∧ x < 65) ∨ (70 < x ∧ x < 97) ∨ 102 < x) : hexv x = -1 := by unfold hexv; rw [if_neg (by omega), if_neg (by omega), if_neg (by omega)]

set_option maxHeartbeats 1600000 in
theorem hexEscape_loop (b off n c : Nat) (zs : List Int) (w : World) (hl : zs.length = n) (hc : n ≤ c) (hn : n ≤ 9223372036854775807) (hr : ∀ z ∈ zs, 0 ≤ z ∧ z ≤ 255)
    (hcell : ∀ i, i < n → w.cell? ⟨b, off + i, none⟩ = some (.int .u8 (zs.getD i 0))) (h6 : 6 ≤ n) (h0 : zs.getD 0 0 = 92) (h1 : zs.getD 1 0 = 117) :
    Calls Try.prog 39 #[.slice (some ⟨b, off, none⟩) n c] w fun e w' => ((okTo (dgt zs) 4 ∧ e = .returned (.tuple #[.int .i32 (hv (dgt zs) 4), .bool true])) ∨ (¬ okTo (dgt zs) 4 ∧ e = .returned (.tuple #[.int .i32 0, .bool false]))) ∧ w' = w := by
  have q0 : w.cell? ⟨b, off, none⟩ = some (.int .u8 92) := by have := hcell 0 (by omega); rw [h0] at this; exact this
  have q1 : w.cell? ⟨b, off + 1, none⟩ = some (.int .u8 117) := by have := hcell 1 (by omega); rw [h1] at this; exact this
  have HC : Hid (∀ i, i < n → w.cell? ⟨b, off + i, none⟩ = some (.int .u8 (zs.getD i 0))) := hcell
  have HL : Hid (zs.length = n) := hl
  clear hcell hl h0 h1
  have c2 : ¬ c = 2 := by omega
  go_enter Try.func39, Try.ntmps39
  go_wp2
  go_loop [4, 25] (fun r i => ∃ k : Nat, k ≤ 4 ∧ i = .int .i64 k ∧ r = .int .i32 (hv (dgt zs) k) ∧ okTo (dgt zs) k) (fun _ i => 4 - (intOf i).toNat)
  case atStart => exact ⟨0, by omega, rfl, rfl, fun j h => by omega⟩
  case round =>
    obtain ⟨k, hk, rfl, rfl, hok⟩ := hrel
    have hR := hv_range (dgt zs) (fun j => (hexv_range _).2) k hok hk
    obtain ⟨hR1, hR2, hR3⟩ := hR
    by_cases hlt : k < 4
    · obtain ⟨x, hx⟩ : ∃ x, x = zs.getD (2 + k) 0 := ⟨_, rfl⟩
      have hR4 := hR3 (by omega)
      obtain ⟨R, hRR⟩ : ∃ R, R = hv (dgt zs) k := ⟨_, rfl⟩
      have q : w.cell? ⟨b, off + 2 + k, none⟩ = some (.int .u8 x) := by rw [hx, Nat.add_assoc]; exact HC.out (2 + k) (by omega)
      have hxr : 0 ≤ x ∧ x ≤ 255 := by
        rw [hx]
        have h2 : 2 + k < zs.length := by rw [HL.out]; omega
        have := hr _ (List.getElem_mem h2)
        simpa [List.getD, h2] using this
      have HX : Hid (x = zs.getD (2 + k) 0) := hx
      have HRR : Hid (R = hv (dgt zs) k) := hRR
      rw [← hRR] at hR1 hR2 hR4
      rw [← hRR]
      clear hx hRR hR3
      rcases (show (48 ≤ x ∧ x ≤ 57) ∨ (97 ≤ x ∧ x ≤ 102) ∨ (65 ≤ x ∧ x ≤ 70) ∨ (x < 48 ∨ (57 < x ∧ x < 65) ∨ (70 < x ∧ x < 97) ∨ 102 < x) from by omega) with hd | hd | hd | hd
      · go_wp2
        go_round
        case rel => exact ⟨k + 1, by omega, by go_num, hex_step HX.out HRR.out hR1 hR4 (hexv_a hd) (by omega) (by omega), hex_ok HX.out hok (hexv_a hd) (by omega)⟩
        case measure => simp [intOf]; omega
      · go_wp2
        go_round
        case rel => exact ⟨k + 1, by omega, by go_num, hex_step HX.out HRR.out hR1 hR4 (hexv_b hd) (by omega) (by omega), hex_ok HX.out hok (hexv_b hd) (by omega)⟩
        case measure => simp [intOf]; omega
      · go_wp2
        go_round
        case rel => exact ⟨k + 1, by omega, by go_num, hex_step HX.out HRR.out hR1 hR4 (hexv_c hd) (by omega) (by omega), hex_ok HX.out hok (hexv_c hd) (by omega)⟩
        case measure => simp [intOf]; omega
      · have HB : Hid (¬ okTo (dgt zs) 4) := hex_bad hlt HX.out (hexv_d hd)
        go_wp2
        all_goals
          go_ret2
          exact ⟨.inr ⟨HB.out, rfl⟩, rfl⟩
    · obtain rfl : k = 4 := by omega
      clear hR3
      have HO : Hid (okTo (dgt zs) 4) := hok
      clear hok
      go_wp2
      go_ret2
      exact ⟨.inl ⟨HO.out, rfl⟩, rfl⟩

/-- The list opens with an escape. -/
def escOk (zs : List Int) : Prop := opensB zs = true ∧ okTo (dgt zs) 4

set_option maxHeartbeats 1600000 in
theorem hexEscape_any (a : Option Addr) (n c : Nat) (zs : List Int) (w : World) (hz : Holds8 w a n c zs) :
    Calls Try.prog 39 #[.slice a n c] w fun e w' => (((escOk zs) ∧ e = .returned (.tuple #[.int .i32 (hv (dgt zs) 4), .bool true])) ∨ (¬ (escOk zs) ∧ e = .returned (.tuple #[.int .i32 0, .bool false]))) ∧ w' = w := by
  obtain ⟨hl, hc, hn, hr, hcell0⟩ := hz
  by_cases h6 : 6 ≤ n
  · obtain ⟨b, off, rfl, hcell⟩ : ∃ b off, a = some ⟨b, off, none⟩ ∧ ∀ i, i < n → w.cell? ⟨b, off + i, none⟩ = some (.int .u8 (zs.getD i 0)) := by
      rcases hcell0 with h | h
      · omega
      · exact h
    clear hcell0
    by_cases h0 : zs.getD 0 0 = 92
    · by_cases h1 : zs.getD 1 0 = 117
      · have ho : opensB zs = true := by unfold opensB; rw [h0, h1, hl]; simpa using h6
        refine (hexEscape_loop b off n c zs w hl hc hn hr hcell h6 h0 h1).mono ?_
        rintro e w' ⟨h, rfl⟩
        rcases h with ⟨h, he⟩ | ⟨h, he⟩
        · exact ⟨.inl ⟨⟨ho, h⟩, he⟩, rfl⟩
        · exact ⟨.inr ⟨fun k => h k.2, he⟩, rfl⟩
      · have HB : Hid (¬ (escOk zs)) := by
          rintro ⟨h, -⟩
          unfold opensB at h
          simp at h
          exact h1 (by simpa [List.getD] using h.2)
        obtain ⟨x, hx⟩ : ∃ x, x = zs.getD 1 0 := ⟨_, rfl⟩
        have q0 : w.cell? ⟨b, off, none⟩ = some (.int .u8 92) := by have := hcell 0 (by omega); rw [h0] at this; exact this
        have q1 : w.cell? ⟨b, off + 1, none⟩ = some (.int .u8 x) := by have := hcell 1 (by omega); rw [← hx] at this; exact this
        have hx1 : (x != 117) = true := by rw [hx]; simpa [bne] using h1
        clear hcell hx h0 h1 hl
        go_enter Try.func39, Try.ntmps39
        go_wp2
        go_ret2
        exact ⟨.inr ⟨HB.out, rfl⟩, rfl⟩
    · have HB : Hid (¬ (escOk zs)) := by
        rintro ⟨h, -⟩
        unfold opensB at h
        simp at h
        exact h0 (by simpa [List.getD] using h.1.2)
      obtain ⟨x, hx⟩ : ∃ x, x = zs.getD 0 0 := ⟨_, rfl⟩
      have q0 : w.cell? ⟨b, off, none⟩ = some (.int .u8 x) := by have := hcell 0 (by omega); rw [← hx] at this; exact this
      have hx1 : (x != 92) = true := by rw [hx]; simpa [bne] using h0
      clear hcell hx h0 hl
      go_enter Try.func39, Try.ntmps39
      go_wp2
      go_ret2
      exact ⟨.inr ⟨HB.out, rfl⟩, rfl⟩
  · have HB : Hid (¬ (escOk zs)) := by
      rintro ⟨h, -⟩
      unfold opensB at h
      simp at h
      omega
    clear hcell0 hl
    go_enter Try.func39, Try.ntmps39
    go_wp2
    go_ret2
    exact ⟨.inr ⟨HB.out, rfl⟩, rfl⟩

end Go.Proofs.Qxb6601186a
