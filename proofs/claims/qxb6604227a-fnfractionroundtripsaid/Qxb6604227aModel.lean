import Derived.Test.Qxb6604227aFrac
namespace Go.Proofs.Qxb6604227a.Cond
open Go.RowKit
set_option linter.unusedVariables false

/-! ### zzFractionModel -/
theorem model_A (s : ByteArray) (w : World) (hd : s.size = 0 ∨ bt s 0 ≠ 46) (hs : s.size ≤ 1099511627776) :
    Calls Try.prog 8 #[.string s] w fun e w' => e = .returned (.tuple #[.int .i64 0, .string s, .bool true]) ∧ ∃ q, w' = w.drewN q := by
  by_cases hz : s.size = 0
  · have hb : ((s.size : Int) == 0) = true := by simp [hz]
    clear hd hz
    go_enter Try.func8, Try.ntmps8
    go_wp2
    go_ret3
    exact ⟨rfl, 0, rfl⟩
  · have hb : ((s.size : Int) == 0) = false := by simp [hz]
    have hlt : 0 < s.size := by omega
    have hne : ((s[0].toNat : Int) != 46) = true := by
      rcases hd with hd | hd
      · omega
      · rw [bt_get s 0 hlt] at hd
        simp; omega
    clear hd
    go_enter Try.func8, Try.ntmps8
    go_wp2
    go_ret3
    exact ⟨rfl, 0, rfl⟩

set_option maxHeartbeats 800000 in
theorem model_none (s : ByteArray) (w : World) (hz : 0 < s.size) (hd : bt s 0 = 46) (hr : Run s 0) (hs : s.size ≤ 1099511627776) :
    Calls Try.prog 8 #[.string s] w fun e w' => e = .returned (.tuple #[.int .i64 0, .string ⟨#[]⟩, .bool false]) ∧ ∃ q, w' = w.drewN q := by
  have hst := hr.2.2
  have hb : ((s.size : Int) == 0) = false := beq_eq_false_iff_ne.2 (by omega)
  have hne : ((s[0].toNat : Int) != 46) = false := by rw [bt_get s 0 hz] at hd; simp [hd]
  clear hd
  go_enter Try.func8, Try.ntmps8
  go_wp2
  refine wp_loop_rounds 1 ?_; rw [rounds_succ]
  by_cases hlt : 1 < s.size
  · have hdb : digB (s[1].toNat : Int) = false := by rw [← bt_get s 1 hlt]; exact digB_false (hst hlt)
    clear hst
    go_wp2_with (go_at_call 11; refine (zzIsDigit_any _ _).mono ?_; rintro e w' ⟨rfl, rfl⟩)
    go_ret3
    exact ⟨rfl, 0, rfl⟩
  · have hdd : decide ((1 : Int) < (s.size : Int)) = false := decide_eq_false (by omega)
    go_wp2
    go_ret3
    exact ⟨rfl, 0, rfl⟩

theorem val_int {k : IntKind} {a b : Int} (h : a = b) : Value.int k a = Value.int k b := by rw [h]
theorem wrap_vd {v d g : Nat} (hv : v < 1000000000) (hd : d ≤ 9) (hg : g ≤ 100000000) : wrap64 ((v : Int) + wrap64 ((48 + (d : Int) - 48) * (g : Int))) = ((v + d * g : Nat) : Int) := by
  have e : (48 + (d : Int) - 48) * (g : Int) = ((d * g : Nat) : Int) := by
    have : 48 + (d : Int) - 48 = (d : Int) := by omega
    rw [this]; simp
  have h : d * g ≤ 9 * 100000000 := Nat.mul_le_mul hd hg
  rw [e]
  generalize d * g = p at h
  unfold wrap64
  omega
theorem v_step {s : ByteArray} {k t v g d : Nat} (hv : v = N s k t * 10 ^ (9 - t)) (hg : g = 100000000 / 10 ^ t) (hd : D s k (t + 1) = d) (ht : t ≤ 8) : v + d * g = N s k (t + 1) * 10 ^ (9 - (t + 1)) := by
  rw [hv, hg, weight_step _ _ _ ht, ← hd]; rfl
theorem g_step {t g : Nat} (hg : g = 100000000 / 10 ^ t) : g / 10 = 100000000 / 10 ^ (t + 1) := by rw [hg, weight_div]
theorem v_bound {s : ByteArray} {k t v g d : Nat} (h : Run s k) (hv : v = N s k t * 10 ^ (9 - t)) (hg : g = 100000000 / 10 ^ t) (hd : D s k (t + 1) = d) (ht : t ≤ 8) : v + d * g < 1000000000 := by
  rw [v_step hv hg hd ht]
  have h1 := N_lt h (t + 1)
  have h2 : N s k (t + 1) * 10 ^ (9 - (t + 1)) < 10 ^ (t + 1) * 10 ^ (9 - (t + 1)) := Nat.mul_lt_mul_of_pos_right h1 (Nat.pow_pos (by omega))
  rw [← Nat.pow_add, show t + 1 + (9 - (t + 1)) = 9 by omega] at h2
  omega

set_option maxHeartbeats 1600000 in
theorem model_some (s : ByteArray) (r : Nat) (w : World) (hz : 0 < s.size) (hd : bt s 0 = 46) (hr : Run s r) (hs : s.size ≤ 1099511627776) (h0 : 1 ≤ r) :
    Calls Try.prog 8 #[.string s] w fun e w' => e = .returned (.tuple #[.int .i64 (N s r 9 : Nat), .string (s.extract (1 + r) s.size), .bool true]) ∧ ∃ q, w' = w.drewN q := by
  have hr1 := hr.1
  have hb : ((s.size : Int) == 0) = false := beq_eq_false_iff_ne.2 (by omega)
  have hne0 : ((s[0].toNat : Int) != 46) = false := by rw [bt_get s 0 hz] at hd; simp [hd]
  have hne : ((r : Int) == 0) = false := beq_eq_false_iff_ne.2 (by omega)
  have HR : Hid (Run s r) := hr
  clear hr hd
  go_enter Try.func8, Try.ntmps8
  go_wp2
  go_loop [5] (fun n => ∃ k : Nat, k ≤ r ∧ n = .int .i64 (k : Int)) (fun n => s.size - (intOf n).toNat)
  case atStart => exact ⟨0, Nat.zero_le _, rfl⟩
  case round =>
    obtain ⟨k, hk, rfl⟩ := hrel
    by_cases hkr : k < r
    · have hlt : 1 + k < s.size := by omega
      have hdb : digB (s[1 + k].toNat : Int) = true := by rw [← bt_get s (1 + k) hlt]; exact digB_true (HR.out.2.1 _ (by omega) (by omega))
      go_wp2_with (go_at_call 11; refine (zzIsDigit_any _ _).mono ?_; rintro e w' ⟨rfl, rfl⟩)
      go_round
      case rel => exact ⟨k + 1, by omega, by go_num⟩
      case measure => simp [intOf]; omega
    · obtain rfl : k = r := by omega
      by_cases hlt : 1 + k < s.size
      · have hdb : digB (s[1 + k].toNat : Int) = false := by rw [← bt_get s (1 + k) hlt]; exact digB_false (HR.out.2.2 hlt)
        go_wp2_with (go_at_call 11; refine (zzIsDigit_any _ _).mono ?_; rintro e w' ⟨rfl, rfl⟩)
        go_wp2
        go_loop [6, 7, 8] (fun a b c => ∃ t v g : Nat, t ≤ 9 ∧ a = .int .i64 v ∧ b = .int .i64 g ∧ c = .int .i64 ((t : Int) + 1) ∧ Hid (v = N s k t * 10 ^ (9 - t)) ∧ Hid (g = 100000000 / 10 ^ t) ∧ v < 1000000000 ∧ g ≤ 100000000) (fun _ _ c => 10 - (intOf c).toNat)
        case atStart => exact ⟨0, 0, 100000000, Nat.zero_le _, rfl, rfl, rfl, (by unfold Hid; simp [N]), (by unfold Hid; simp), by omega, by omega⟩
        case round =>
          obtain ⟨t, v, g, ht, rfl, rfl, rfl, hv, hg, hvb, hgb⟩ := hrel
          by_cases ht9 : t < 9
          · by_cases htk : t + 1 ≤ k
            · have hlt2 : t + 1 < s.size := by omega
              have hdig := HR.out.2.1 (t + 1) (by omega) htk
              have hbt := bt_get s (t + 1) hlt2
              obtain ⟨d, hd1, hd2⟩ : ∃ d : Nat, s[t + 1].toNat = 48 + d ∧ d ≤ 9 := ⟨s[t + 1].toNat - 48, by unfold IsDig at hdig; omega, by unfold IsDig at hdig; omega⟩
              have HDD : Hid (D s k (t + 1) = d) := by unfold D; rw [if_pos htk, hbt]; show _ = _; omega
              clear hbt hdig
              go_wp2
              go_round
              case rel => exact ⟨t + 1, v + d * g, g / 10, by omega, val_int (wrap_vd hvb hd2 hgb), by go_num, by go_num, v_step hv.out hg.out HDD.out (by omega), g_step hg.out, v_bound HR.out hv.out hg.out HDD.out (by omega), by omega⟩
              case measure => simp [intOf]; omega
            · have HDD : Hid (D s k (t + 1) = 0) := by unfold D; rw [if_neg htk]; exact rfl
              go_wp2
              go_round
              case rel => exact ⟨t + 1, v + 0 * g, g / 10, by omega, by go_num, by go_num, by go_num, v_step hv.out hg.out HDD.out (by omega), g_step hg.out, v_bound HR.out hv.out hg.out HDD.out (by omega), by omega⟩
              case measure => simp [intOf]; omega
          · obtain rfl : t = 9 := by omega
            have HV : Hid (v = N s k 9) := by
              have h := hv.out
              rw [Nat.sub_self, Nat.pow_zero, Nat.mul_one] at h
              exact h
            clear hv hg
            go_wp2
            go_quiet (fail)
            go_wp2
            go_ret3
            exact ⟨ret3 HV.out, _, rfl⟩
      · have hdd : decide ((1 : Int) + (k : Int) < (s.size : Int)) = false := decide_eq_false (by omega)
        go_wp2
        go_loop [6, 7, 8] (fun a b c => ∃ t v g : Nat, t ≤ 9 ∧ a = .int .i64 v ∧ b = .int .i64 g ∧ c = .int .i64 ((t : Int) + 1) ∧ Hid (v = N s k t * 10 ^ (9 - t)) ∧ Hid (g = 100000000 / 10 ^ t) ∧ v < 1000000000 ∧ g ≤ 100000000) (fun _ _ c => 10 - (intOf c).toNat)
        case atStart => exact ⟨0, 0, 100000000, Nat.zero_le _, rfl, rfl, rfl, (by unfold Hid; simp [N]), (by unfold Hid; simp), by omega, by omega⟩
        case round =>
          obtain ⟨t, v, g, ht, rfl, rfl, rfl, hv, hg, hvb, hgb⟩ := hrel
          by_cases ht9 : t < 9
          · by_cases htk : t + 1 ≤ k
            · have hlt2 : t + 1 < s.size := by omega
              have hdig := HR.out.2.1 (t + 1) (by omega) htk
              have hbt := bt_get s (t + 1) hlt2
              obtain ⟨d, hd1, hd2⟩ : ∃ d : Nat, s[t + 1].toNat = 48 + d ∧ d ≤ 9 := ⟨s[t + 1].toNat - 48, by unfold IsDig at hdig; omega, by unfold IsDig at hdig; omega⟩
              have HDD : Hid (D s k (t + 1) = d) := by unfold D; rw [if_pos htk, hbt]; show _ = _; omega
              clear hbt hdig
              go_wp2
              go_round
              case rel => exact ⟨t + 1, v + d * g, g / 10, by omega, val_int (wrap_vd hvb hd2 hgb), by go_num, by go_num, v_step hv.out hg.out HDD.out (by omega), g_step hg.out, v_bound HR.out hv.out hg.out HDD.out (by omega), by omega⟩
              case measure => simp [intOf]; omega
            · have HDD : Hid (D s k (t + 1) = 0) := by unfold D; rw [if_neg htk]; exact rfl
              go_wp2
              go_round
              case rel => exact ⟨t + 1, v + 0 * g, g / 10, by omega, by go_num, by go_num, by go_num, v_step hv.out hg.out HDD.out (by omega), g_step hg.out, v_bound HR.out hv.out hg.out HDD.out (by omega), by omega⟩
              case measure => simp [intOf]; omega
          · obtain rfl : t = 9 := by omega
            have HV : Hid (v = N s k 9) := by
              have h := hv.out
              rw [Nat.sub_self, Nat.pow_zero, Nat.mul_one] at h
              exact h
            clear hv hg
            go_wp2
            go_quiet (fail)
            go_wp2
            go_ret3
            exact ⟨ret3 HV.out, _, rfl⟩

/-! ### The law -/
/-- ZZfraction hands on what fraction hands back. -/
theorem zzFrac_of (s : ByteArray) (w : World) (n : Int) (t : ByteArray) (b : Bool)
    (h : ∀ w : World, Calls Try.prog 15 #[.string s] w fun e w' => e = .returned (.tuple #[.int .i64 n, .string t, .bool b]) ∧ ∃ q, w' = w.drewN q) :
    Calls Try.prog 7 #[.string s] w fun e w' => e = .returned (.tuple #[.int .i64 n, .string t, .bool b]) ∧ ∃ q, w' = w.drewN q := by
  have H : Hid (∀ w : World, Calls Try.prog 15 #[.string s] w fun e w' => e = .returned (.tuple #[.int .i64 n, .string t, .bool b]) ∧ ∃ q, w' = w.drewN q) := h
  clear h
  go_enter Try.func7, Try.ntmps7
  go_wp2_with (go_at_call 15; refine (H.out _).mono ?_; rintro e w' ⟨rfl, q, rfl⟩)
  go_ret3
  exact ⟨rfl, _, rfl⟩

theorem bytes_frac (s : ByteArray) (hs : s.size ≤ maxLen) (w : World) : Calls Try.prog 6 #[.string s] w fun e w' => e = .returned (.bool (decide (s.size ≤ 1048576))) ∧ w' = w := by
  unfold maxLen at hs
  by_cases h : s.size ≤ 1048576
  · have e : decide (s.size ≤ 1048576) = true := decide_eq_true h
    rw [e]
    go_enter Try.func6, Try.ntmps6
    go_wp2
    go_ret
    exact ⟨rfl, rfl⟩
  · have e : decide (s.size ≤ 1048576) = false := decide_eq_false h
    rw [e]
    go_enter Try.func6, Try.ntmps6
    go_wp2
    go_ret
    exact ⟨rfl, rfl⟩

/-- Where both hand back the same three values. -/
theorem law_both (s : ByteArray) (hs : s.size ≤ maxLen) (h : s.size ≤ 1048576) (w : World) (n : Int) (t : ByteArray) (b : Bool)
    (h1 : ∀ w : World, Calls Try.prog 7 #[.string s] w fun e w' => e = .returned (.tuple #[.int .i64 n, .string t, .bool b]) ∧ ∃ q, w' = w.drewN q)
    (h2 : ∀ w : World, Calls Try.prog 8 #[.string s] w fun e w' => e = .returned (.tuple #[.int .i64 n, .string t, .bool b]) ∧ ∃ q, w' = w.drewN q) :
    Calls Try.prog 3 #[.string s] w fun e w' => e = .returned (.bool true) ∧ Grown w w' := by
  have H1 : Hid (∀ w : World, Calls Try.prog 7 #[.string s] w fun e w' => e = .returned (.tuple #[.int .i64 n, .string t, .bool b]) ∧ ∃ q, w' = w.drewN q) := h1
  have H2 : Hid (∀ w : World, Calls Try.prog 8 #[.string s] w fun e w' => e = .returned (.tuple #[.int .i64 n, .string t, .bool b]) ∧ ∃ q, w' = w.drewN q) := h2
  have e : decide (s.size ≤ 1048576) = true := decide_eq_true h
  clear h1 h2
  go_enter Try.func3, Try.ntmps3
  go_wp2_with (first
    | (go_at_call 6; refine (bytes_frac s hs _).mono ?_; rintro e w' ⟨rfl, rfl⟩)
    | (go_at_call 7; refine (H1.out _).mono ?_; rintro e w' ⟨rfl, q, rfl⟩)
    | (go_at_call 8; refine (H2.out _).mono ?_; rintro e w' ⟨rfl, q', rfl⟩))
  go_ret
  exact ⟨rfl, grown_dr _ _⟩

theorem law_frac (s : ByteArray) (hs : s.size ≤ maxLen) (w : World) : Calls Try.prog 3 #[.string s] w fun e w' => e = .returned (.bool true) ∧ Grown w w' := by
  by_cases h : s.size ≤ 1048576
  · have hs' : s.size ≤ 1099511627776 := by omega
    by_cases hA : s.size = 0 ∨ bt s 0 ≠ 46
    · exact law_both s hs h w _ _ _ (fun w => zzFrac_of s w _ _ _ fun w => frac_A s w hA hs') (fun w => model_A s w hA hs')
    · have hz : 0 < s.size := by omega
      have hd : bt s 0 = 46 := by omega
      obtain ⟨r, hr⟩ := run_ex s hz
      by_cases h0 : r = 0
      · subst h0
        exact law_both s hs h w _ _ _ (fun w => zzFrac_of s w _ _ _ fun w => frac_none s w hz hd hr hs') (fun w => model_none s w hz hd hr hs')
      · exact law_both s hs h w _ _ _ (fun w => zzFrac_of s w _ _ _ fun w => frac_some s r w hz hd hr hs' (by omega)) (fun w => model_some s r w hz hd hr hs' (by omega))
  · have e : decide (s.size ≤ 1048576) = false := decide_eq_false h
    go_enter Try.func3, Try.ntmps3
    go_wp2_with (go_at_call 6; refine (bytes_frac s hs _).mono ?_; rintro e w' ⟨rfl, rfl⟩)
    go_ret
    exact ⟨rfl, Grown.refl _⟩
end Go.Proofs.Qxb6604227a.Cond
