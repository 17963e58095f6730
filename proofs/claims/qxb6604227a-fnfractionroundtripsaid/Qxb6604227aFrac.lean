import Derived.Test.Qxb6604227aFits
import Derived.Test.Qxb6604227aNums
namespace Go.Proofs.Qxb6604227a.Cond
open Go.RowKit
set_option linter.unusedVariables false

theorem ret_int {k : IntKind} {a b : Int} (h : a = b) : Ending.returned (.int k a) = .returned (.int k b) := by rw [h]

theorem ret3 {a b : Nat} {x y : Value} (h : a = b) : Ending.returned (.tuple #[.int .i64 (a : Int), x, y]) = .returned (.tuple #[.int .i64 (b : Int), x, y]) := by rw [h]

/-! ### strings.HasPrefix of the point -/
theorem point_eq (s : ByteArray) (h : 0 < s.size) : ((s.extract 0 1).toList == [46]) = decide (bt s 0 = 46) := by
  have h1 : s.data.toList[0]? = some s[0] := Lib.data_getElem? s 0 h
  rw [Lib.toList_data, Lib.extract_data, bt_get s 0 h]
  match hl : s.data.toList with
  | [] => rw [hl] at h1; simp at h1
  | c :: t =>
    rw [hl] at h1
    simp at h1
    rw [← h1]
    simp
    by_cases e : c = 46
    · simp [e]
    · have e' : c.toNat ≠ 46 := fun e' => e (UInt8.toNat_inj.1 e')
      simp [e, e']

theorem hasPrefix_dot (s : ByteArray) (w : World) (h : 0 < s.size) (hd : bt s 0 = 46) (hs : s.size ≤ 1099511627776) : Calls Try.prog 17 #[.string s, .string ⟨#[46]⟩] w fun e w' => e = .returned (.bool true) ∧ w' = w := by
  have e : ((s.extract 0 1).toList == [46]) = true := by rw [point_eq s h]; simp [hd]
  go_enter Try.func17, Try.ntmps17
  go_wp2
  go_ret
  exact ⟨rfl, rfl⟩
theorem hasPrefix_other (s : ByteArray) (w : World) (hd : s.size = 0 ∨ bt s 0 ≠ 46) (hs : s.size ≤ 1099511627776) : Calls Try.prog 17 #[.string s, .string ⟨#[46]⟩] w fun e w' => e = .returned (.bool false) ∧ w' = w := by
  by_cases h : 0 < s.size
  · have e : ((s.extract 0 1).toList == [46]) = false := by
      rw [point_eq s h]
      rcases hd with hd | hd
      · omega
      · simp [hd]
    go_enter Try.func17, Try.ntmps17
    go_wp2
    go_ret
    exact ⟨rfl, rfl⟩
  · have hz : ¬ ((1 : Int) ≤ (s.size : Int)) := by omega
    have hzd : decide ((1 : Int) ≤ (s.size : Int)) = false := decide_eq_false hz
    go_enter Try.func17, Try.ntmps17
    go_wp2
    go_ret
    exact ⟨rfl, rfl⟩

set_option maxHeartbeats 400000 in
theorem decimal_any (t : ByteArray) (w : World) (h9 : t.size ≤ 9) (hd : ∀ j, j < t.size → IsDig (bt t j)) : Calls Try.prog 19 #[.string t] w fun e w' => e = .returned (.int .i64 (dec t t.size : Nat)) ∧ w' = w := by
  have HD : Hid (∀ j, j < t.size → IsDig (bt t j)) := hd
  clear hd
  go_enter Try.func19, Try.ntmps19
  go_wp2
  go_loop [3, 7] (fun n i => ∃ k v : Nat, k ≤ t.size ∧ n = .int .i64 v ∧ i = .int .i64 k ∧ Hid (v = dec t k)) (fun _ i => t.size - (intOf i).toNat)
  case atStart => exact ⟨0, 0, Nat.zero_le _, rfl, rfl, rfl⟩
  case round =>
    obtain ⟨k, v, hk, rfl, rfl, hv⟩ := hrel
    by_cases hlt : k < t.size
    · have h1 := HD.out k hlt
      have h2 := bt_get t k hlt
      have b1 : (48 : Int) ≤ (t[k].toNat : Int) := by unfold IsDig at h1; omega
      have b2 : (t[k].toNat : Int) ≤ 57 := by unfold IsDig at h1; omega
      have hlt9 : v < 1000000000 := by
        have h3 := dec_lt (t := t) (k := k) fun j hj => HD.out j (by omega)
        have h4 : 10 ^ k ≤ 10 ^ 9 := Nat.pow_le_pow_right (by omega) (by omega)
        rw [hv.out]; omega
      have H2 : Hid (bt t k = t[k].toNat) := h2
      clear h1 h2
      go_wp2
      go_round
      case rel => exact ⟨k + 1, v * 10 + (t[k].toNat - 48), by omega, by go_num, by go_num, by show _ = dec t k * 10 + (bt t k - 48); rw [H2.out, ← hv.out]⟩
      case measure => simp [intOf]; omega
    · obtain rfl : k = t.size := by omega
      go_wp2
      go_ret
      exact ⟨ret_int (congrArg (fun x : Nat => (x : Int)) hv.out), rfl⟩

/-! ### fraction -/
set_option maxHeartbeats 400000 in
theorem frac_A (s : ByteArray) (w : World) (hd : s.size = 0 ∨ bt s 0 ≠ 46) (hs : s.size ≤ 1099511627776) :
    Calls Try.prog 15 #[.string s] w fun e w' => e = .returned (.tuple #[.int .i64 0, .string s, .bool true]) ∧ ∃ q, w' = w.drewN q := by
  go_enter Try.func15, Try.ntmps15
  go_wp2_with (go_at_call 17; refine (hasPrefix_other s _ hd hs).mono ?_; rintro e w' ⟨rfl, rfl⟩)
  go_ret3
  exact ⟨rfl, 0, rfl⟩

theorem digB_true {c : Nat} (h : IsDig c) : digB (c : Int) = true := by
  unfold IsDig at h
  have h1 : (48 : Int) ≤ (c : Int) := by omega
  have h2 : (c : Int) ≤ 57 := by omega
  simp [digB, h1, h2]
theorem digB_false {c : Nat} (h : ¬ IsDig c) : digB (c : Int) = false := by
  unfold IsDig at h
  by_cases h1 : (48 : Int) ≤ (c : Int)
  · have h2 : ¬ (c : Int) ≤ 57 := by omega
    simp [digB, h2]
  · simp [digB, h1]

/-- Where the digits go on. -/
theorem Run.go {s : ByteArray} {r k : Nat} (h : Run s r) (hk : k ≤ r) (h1 : 1 + k < s.size) (hd : IsDig (bt s (1 + k))) : k + 1 ≤ r := by
  by_cases e : k = r
  · subst e; exact absurd hd (h.2.2 h1)
  · omega
theorem Run.stop {s : ByteArray} {r k : Nat} (h : Run s r) (hk : k ≤ r) (h1 : 1 + k < s.size → ¬ IsDig (bt s (1 + k))) : k = r := by
  by_cases e : k = r
  · exact e
  · have h2 := h.1
    have h3 := h.2.1 (1 + k) (by omega) (by omega)
    exact absurd h3 (h1 (by omega))

set_option maxHeartbeats 800000 in
theorem frac_none (s : ByteArray) (w : World) (hz : 0 < s.size) (hd : bt s 0 = 46) (hr : Run s 0) (hs : s.size ≤ 1099511627776) :
    Calls Try.prog 15 #[.string s] w fun e w' => e = .returned (.tuple #[.int .i64 0, .string ⟨#[]⟩, .bool false]) ∧ ∃ q, w' = w.drewN q := by
  have hst := hr.2.2
  go_enter Try.func15, Try.ntmps15
  go_wp2_with (go_at_call 17; refine (hasPrefix_dot s _ hz hd hs).mono ?_; rintro e w' ⟨rfl, rfl⟩)
  refine wp_loop_rounds 1 ?_; rw [rounds_succ]
  by_cases hlt : 1 < s.size
  · have hdb : digB (s[1].toNat : Int) = false := by rw [← bt_get s 1 hlt]; exact digB_false (hst hlt)
    clear hst
    go_wp2_with (go_at_call 18; refine (isDigit_any _ _).mono ?_; rintro e w' ⟨rfl, rfl⟩)
    go_ret3
    exact ⟨rfl, 0, rfl⟩
  · have hdd : decide ((1 : Int) < (s.size : Int)) = false := decide_eq_false (by omega)
    go_wp2
    go_ret3
    exact ⟨rfl, 0, rfl⟩

theorem decimal_cut (s : ByteArray) (r c : Nat) (w : World) (hr : Run s r) (hc : c ≤ r) (h9 : c ≤ 9) : Calls Try.prog 19 #[.string (s.extract 1 (1 + c))] w fun e w' => e = .returned (.int .i64 (N s r c : Nat)) ∧ w' = w := by
  have hr1 := hr.1
  have hsz : (s.extract 1 (1 + c)).size = c := by simp; omega
  have h := decimal_any (s.extract 1 (1 + c)) w (by omega) (fun j hj => by
    rw [hsz] at hj
    rw [bt_cut s c j hj (by omega)]
    exact hr.2.1 _ (by omega) (by omega))
  rw [hsz, dec_cut hc hr1 c (Nat.le_refl _)] at h
  exact h

theorem N_bound {s : ByteArray} {r : Nat} (h : Run s r) (k : Nat) (hk : k ≤ 9) : N s r k < 1000000000 := by
  have h1 := N_lt h k
  have h2 : 10 ^ k ≤ 10 ^ 9 := Nat.pow_le_pow_right (by omega) hk
  omega
theorem step_zero {s : ByteArray} {k t v : Nat} (hv : v = N s k (k + t)) : v * 10 = N s k (k + (t + 1)) := by
  rw [← Nat.add_assoc, N_zero (by omega), hv]
theorem step_bound {s : ByteArray} {k t v : Nat} (h : Run s k) (hv : v = N s k (k + t)) (ht : k + t + 1 ≤ 9) : v * 10 < 1000000000 := by
  rw [step_zero hv]; exact N_bound h _ (by omega)

set_option maxHeartbeats 1600000 in
theorem frac_some (s : ByteArray) (r : Nat) (w : World) (hz : 0 < s.size) (hd : bt s 0 = 46) (hr : Run s r) (hs : s.size ≤ 1099511627776) (h0 : 1 ≤ r) :
    Calls Try.prog 15 #[.string s] w fun e w' => e = .returned (.tuple #[.int .i64 (N s r 9 : Nat), .string (s.extract (1 + r) s.size), .bool true]) ∧ ∃ q, w' = w.drewN q := by
  have hr1 := hr.1
  have hne : ((1 : Int) + (r : Int) == 1) = false := by simp; omega
  have HR : Hid (Run s r) := hr
  clear hr
  go_enter Try.func15, Try.ntmps15
  go_wp2_with (go_at_call 17; refine (hasPrefix_dot s _ hz hd hs).mono ?_; rintro e w' ⟨rfl, rfl⟩)
  go_loop [5] (fun n => ∃ k : Nat, k ≤ r ∧ n = .int .i64 ((1 + k : Nat) : Int)) (fun n => s.size - (intOf n).toNat)
  case atStart => exact ⟨0, Nat.zero_le _, rfl⟩
  case round =>
    obtain ⟨k, hk, rfl⟩ := hrel
    have hcast : ((1 + k : Nat) : Int) = 1 + (k : Int) := by omega
    by_cases hkr : k < r
    · have hlt : 1 + k < s.size := by omega
      have hdb : digB (s[1 + k].toNat : Int) = true := by rw [← bt_get s (1 + k) hlt]; exact digB_true (HR.out.2.1 _ (by omega) (by omega))
      go_wp2_with (go_at_call 18; refine (isDigit_any _ _).mono ?_; rintro e w' ⟨rfl, rfl⟩)
      go_round
      case rel => exact ⟨k + 1, by omega, by go_num⟩
      case measure => simp [intOf]; omega
    · obtain rfl : k = r := by omega
      have hmin : 9 < k → min 10 s.size = 10 := by omega
      by_cases hlt : 1 + k < s.size
      · have hdb : digB (s[1 + k].toNat : Int) = false := by rw [← bt_get s (1 + k) hlt]; exact digB_false (HR.out.2.2 hlt)
        by_cases h9 : k ≤ 9
        · go_wp2_with (go_at_call 18; refine (isDigit_any _ _).mono ?_; rintro e w' ⟨rfl, rfl⟩)
          refine (decimal_cut s k k _ HR.out (Nat.le_refl _) h9).mono ?_
          rintro e w1 ⟨rfl, rfl⟩
          go_wp2
          go_loop [2, 34] (fun a b => ∃ t v : Nat, t ≤ 9 - k ∧ a = .int .i64 v ∧ b = .int .i64 t ∧ Hid (v = N s k (k + t)) ∧ v < 1000000000) (fun _ b => 9 - (intOf b).toNat)
          case atStart => exact ⟨0, N s k k, Nat.zero_le _, rfl, rfl, rfl, N_bound HR.out k h9⟩
          case round =>
            obtain ⟨t, v, ht, rfl, rfl, hv, hvb⟩ := hrel
            by_cases htk : k + t < 9
            · have htk' : (t : Int) < 9 - (k : Int) := by omega
              go_wp2
              go_round
              case rel => exact ⟨t + 1, v * 10, by omega, by go_num, by go_num, step_zero hv.out, step_bound HR.out hv.out (by omega)⟩
              case measure => simp [intOf]; omega
            · have htk' : ¬ ((t : Int) < 9 - (k : Int)) := by omega
              have htd : decide ((t : Int) < 9 - (k : Int)) = false := decide_eq_false htk'
              have hkt : k + t = 9 := by omega
              have HV : Hid (v = N s k 9) := by rw [← hkt]; exact hv.out
              clear hkt hv
              go_wp2
              go_quiet (fail)
              go_wp2
              go_ret3
              exact ⟨ret3 HV.out, _, rfl⟩
        · have hmin := hmin (by omega)
          go_wp2_with (go_at_call 18; refine (isDigit_any _ _).mono ?_; rintro e w' ⟨rfl, rfl⟩)
          refine (decimal_cut s k 9 _ HR.out (by omega) (by omega)).mono ?_
          rintro e w1 ⟨rfl, rfl⟩
          go_wp2
          refine wp_loop_rounds 1 ?_; rw [rounds_succ]
          go_wp2
          go_quiet (fail)
          go_wp2
          go_ret3
          exact ⟨rfl, _, rfl⟩
      · have hdd : decide ((1 : Int) + (k : Int) < (s.size : Int)) = false := decide_eq_false (by omega)
        by_cases h9 : k ≤ 9
        · go_wp2_with fail
          refine (decimal_cut s k k _ HR.out (Nat.le_refl _) h9).mono ?_
          rintro e w1 ⟨rfl, rfl⟩
          go_wp2
          go_loop [2, 34] (fun a b => ∃ t v : Nat, t ≤ 9 - k ∧ a = .int .i64 v ∧ b = .int .i64 t ∧ Hid (v = N s k (k + t)) ∧ v < 1000000000) (fun _ b => 9 - (intOf b).toNat)
          case atStart => exact ⟨0, N s k k, Nat.zero_le _, rfl, rfl, rfl, N_bound HR.out k h9⟩
          case round =>
            obtain ⟨t, v, ht, rfl, rfl, hv, hvb⟩ := hrel
            by_cases htk : k + t < 9
            · have htk' : (t : Int) < 9 - (k : Int) := by omega
              go_wp2
              go_round
              case rel => exact ⟨t + 1, v * 10, by omega, by go_num, by go_num, step_zero hv.out, step_bound HR.out hv.out (by omega)⟩
              case measure => simp [intOf]; omega
            · have htk' : ¬ ((t : Int) < 9 - (k : Int)) := by omega
              have htd : decide ((t : Int) < 9 - (k : Int)) = false := decide_eq_false htk'
              have hkt : k + t = 9 := by omega
              have HV : Hid (v = N s k 9) := by rw [← hkt]; exact hv.out
              clear hkt hv
              go_wp2
              go_quiet (fail)
              go_wp2
              go_ret3
              exact ⟨ret3 HV.out, _, rfl⟩
        · have hmin := hmin (by omega)
          go_wp2_with fail
          refine (decimal_cut s k 9 _ HR.out (by omega) (by omega)).mono ?_
          rintro e w1 ⟨rfl, rfl⟩
          go_wp2
          refine wp_loop_rounds 1 ?_; rw [rounds_succ]
          go_wp2
          go_quiet (fail)
          go_wp2
          go_ret3
          exact ⟨rfl, _, rfl⟩
end Go.Proofs.Qxb6604227a.Cond
