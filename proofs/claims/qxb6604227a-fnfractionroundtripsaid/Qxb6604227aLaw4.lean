import Derived.Test.Qxb6604227aRound
namespace Go.Proofs.Qxb6604227a.Cond
open Go.RowKit
set_option linter.unusedVariables false

/-- A test that tells; the world is as it was. -/
def Tells (P : Prop) (w : World) (e : Ending) (w' : World) : Prop := ∃ r : Bool, e = .returned (.bool r) ∧ (r = true → P) ∧ w' = w
theorem Tells.no {P : Prop} {w : World} : Tells P w (.returned (.bool false)) w := ⟨false, rfl, (by intro h; cases h), rfl⟩
theorem Tells.yes {P : Prop} {w : World} (h : P) : Tells P w (.returned (.bool true)) w := ⟨true, rfl, fun _ => h, rfl⟩

theorem bytes4_any (v : Int) (b : Bool) (x t : ByteArray) (hx : x.size ≤ maxLen) (ht : t.size ≤ maxLen) (w : World) :
    Calls Try.prog 9 #[.int .i64 v, .bool b, .string x, .string t] w (Tells (x.size ≤ 1048576 ∧ t.size ≤ 1048576) w) := by
  unfold maxLen at hx ht
  go_enter Try.func9, Try.ntmps9
  go_wp2
  all_goals go_ret
  all_goals first
    | exact Tells.no
    | exact Tells.yes ⟨by omega, by omega⟩

def AllDig (s : ByteArray) (k : Nat) : Prop := ∀ j, j < k → IsDig (bt s j)
theorem allDigits_any (s : ByteArray) (hs : s.size ≤ 1048576) (w : World) : Calls Try.prog 10 #[.string s] w (Tells (AllDig s s.size) w) := by
  go_enter Try.func10, Try.ntmps10
  go_wp2
  go_loop [3] (fun i => ∃ k : Nat, k ≤ s.size ∧ i = .int .i64 k ∧ Hid (AllDig s k)) (fun i => s.size - (intOf i).toNat)
  case atStart => exact ⟨0, Nat.zero_le _, rfl, fun _ h => absurd h (Nat.not_lt_zero _)⟩
  case round =>
    obtain ⟨k, hk, rfl, hall⟩ := hrel
    by_cases hlt : k < s.size
    · have hb := bt_get s k hlt
      by_cases hd : IsDig (bt s k)
      · have hdb : digB (s[k].toNat : Int) = true := by rw [← hb]; exact digB_true hd
        clear hb
        go_wp2_with (go_at_call 11; refine (zzIsDigit_any _ _).mono ?_; rintro e w' ⟨rfl, rfl⟩)
        go_round
        case rel => exact ⟨k + 1, by omega, by go_num, fun j hj => by
          by_cases e : j = k
          · subst e; exact hd
          · exact hall.out j (by omega)⟩
        case measure => simp [intOf]; omega
      · have hdb : digB (s[k].toNat : Int) = false := by rw [← hb]; exact digB_false hd
        clear hb
        go_wp2_with (go_at_call 11; refine (zzIsDigit_any _ _).mono ?_; rintro e w' ⟨rfl, rfl⟩)
        go_ret
        exact Tells.no
    · obtain rfl : k = s.size := by omega
      go_wp2
      go_ret
      exact Tells.yes hall.out

theorem zero_step {d : ByteArray} {m : Nat} (h : ∀ j, m + 1 ≤ j → j < 9 → bt d j = 48) (h0 : bt d m = 48) : ∀ j, m ≤ j → j < 9 → bt d j = 48 := fun j h1 h2 => by
  by_cases e : j = m
  · subst e; exact h0
  · exact h j (by omega) h2
theorem zzFrac_cut (d t : ByteArray) (n : Nat) (v : Int) (w : World) (h0 : 0 ≤ v) (h1 : v ≤ 999999999) (hd : d = ⟨(nineL v).toArray⟩) (hn1 : 1 ≤ n) (hn9 : n ≤ 9) (hzero : ∀ j, n ≤ j → j < 9 → bt d j = 48)
    (ht : 0 < t.size → ¬ IsDig (bt t 0)) (htl : t.size ≤ 1048576) :
    Calls Try.prog 7 #[.string ((((⟨#[46]⟩ : ByteArray) ++ d.extract 0 n) ++ ⟨#[]⟩) ++ t)] w fun e w' => e = .returned (.tuple #[.int .i64 v, .string t, .bool true]) ∧ ∃ q, w' = w.drewN q := by
  have hsz : d.size = 9 := by rw [hd]; rfl
  have hez : (d.extract 0 n).size = n := by simp; omega
  have hz : (⟨#[]⟩ : ByteArray).size = 0 := rfl
  refine zzFrac_text (d.extract 0 n) ⟨#[]⟩ t v w h0 h1 (by omega) (by omega) (fun j hj => ?_) (fun j h h' => ?_) (fun _ => hz) (fun j hj => by omega) ht (by omega) htl
  · rw [bt_get _ j hj, ByteArray.getElem_extract, ← hd, bt_get d j (by omega)]
    congr 2
    omega
  · rw [← hd]; exact hzero j (by omega) h'

set_option maxHeartbeats 1600000 in
theorem law_round (v : Int) (b : Bool) (x t : ByteArray) (hx : x.size ≤ maxLen) (ht : t.size ≤ maxLen) (w : World) :
    Calls Try.prog 4 #[.int .i64 v, .bool b, .string x, .string t] w fun e w' => e = .returned (.bool true) ∧ Grown w w' := by
  go_enter Try.func4, Try.ntmps4
  go_wp2_with fail
  refine (bytes4_any v b x t hx ht _).mono ?_
  rintro e w1 ⟨r, rfl, hP, hw⟩
  rw [hw]
  clear hw w1
  cases r with
  | false =>
    go_wp2
    go_ret
    exact ⟨rfl, Grown.refl _⟩
  | true =>
  obtain ⟨hx1, ht1⟩ := hP rfl
  clear hP hx ht
  by_cases h1 : 524288 < x.size
  · go_wp2
    go_ret
    exact ⟨rfl, Grown.refl _⟩
  by_cases h2 : 524288 < t.size
  · go_wp2
    go_ret
    exact ⟨rfl, Grown.refl _⟩
  by_cases h3 : v < 0
  · go_wp2
    go_ret
    exact ⟨rfl, Grown.refl _⟩
  by_cases h4 : 999999999 < v
  · go_wp2
    go_ret
    exact ⟨rfl, Grown.refl _⟩
  go_wp2_with fail
  refine (allDigits_any x hx1 _).mono ?_
  rintro e w1 ⟨r, rfl, hP, hw⟩
  rw [hw]
  clear hw w1
  cases r with
  | false =>
    go_wp2
    go_ret
    exact ⟨rfl, Grown.refl _⟩
  | true =>
  have hxd := hP rfl
  clear hP
  by_cases htd : 0 < t.size ∧ IsDig (bt t 0)
  · obtain ⟨hz, hd⟩ := htd
    have hdb : digB (t[0].toNat : Int) = true := by rw [← bt_get t 0 hz]; exact digB_true hd
    go_wp2_with (go_at_call 11; refine (zzIsDigit_any _ _).mono ?_; rintro e w' ⟨rfl, rfl⟩)
    go_ret
    exact ⟨rfl, Grown.refl _⟩
  have HT : Hid (0 < t.size → ¬ IsDig (bt t 0)) := fun h h' => htd ⟨h, h'⟩
  have HX : Hid (AllDig x x.size) := hxd
  clear htd hxd
  have d1 : decide ((524288 : Int) < (x.size : Int)) = false := decide_eq_false (by omega)
  have d2 : decide ((524288 : Int) < (t.size : Int)) = false := decide_eq_false (by omega)
  have d3 : decide (v < 0) = false := decide_eq_false (by omega)
  have d4 : decide (999999999 < v) = false := decide_eq_false (by omega)
  by_cases htz : 0 < t.size
  · have hdb : digB (t[0].toNat : Int) = false := by rw [← bt_get t 0 htz]; exact digB_false (HT.out htz)
    go_wp2_with (go_at_call 11; refine (zzIsDigit_any _ _).mono ?_; rintro e w' ⟨rfl, rfl⟩)
    refine (nine_any v _ (by omega) (by omega)).mono ?_
    rintro e w1 ⟨rfl, hg⟩
    obtain ⟨d, hd⟩ : ∃ d : ByteArray, d = ⟨(nineL v).toArray⟩ := ⟨_, rfl⟩
    have hsz : d.size = 9 := by rw [hd]; rfl
    rw [← hd]
    have HD : Hid (d = ⟨(nineL v).toArray⟩) := hd
    clear hd
    cases b with
    | false =>
      go_wp2_with fail
      refine (zzFrac_text d x t v _ (by omega) (by omega) (by omega) (by omega) (fun j hj => by rw [HD.out]) (fun j h h' => by omega) (fun h => by omega) HX.out HT.out hx1 ht1).mono ?_
      rintro e w2 ⟨rfl, q, rfl⟩
      go_wp2_with fail
      go_ret
      exact ⟨rfl, hg⟩
    | true =>
      go_wp2_with fail
      go_loop [11] (fun a => ∃ n : Nat, 1 ≤ n ∧ n ≤ 9 ∧ a = .int .i64 n ∧ Hid (∀ j, n ≤ j → j < 9 → bt d j = 48)) (fun a => (intOf a).toNat)
      case atStart => exact ⟨9, by omega, by omega, rfl, fun j h h' => by omega⟩
      case round =>
        obtain ⟨n, hn1, hn9, rfl, hzero⟩ := hrel
        by_cases hn : 1 < n
        · obtain ⟨m, rfl⟩ : ∃ m, n = m + 1 := ⟨n - 1, by omega⟩
          have hmd : m < d.size := by omega
          have em : (((m + 1 : Nat) : Int) - 1) = (m : Int) := by omega
          have hm1 : (1 : Int) < ((m + 1 : Nat) : Int) := by omega
          have hm9 : (m : Int) < 9 := by omega
          by_cases h0 : bt d m = 48
          · have hb : ((d[m].toNat : Int) == 48) = true := by rw [← bt_get d m hmd]; simp [h0]
            go_wp2_with fail
            go_round
            case rel => exact ⟨m, by omega, by omega, by go_num, zero_step hzero.out h0⟩
            case measure => simp [intOf]
          · have hb : ((d[m].toNat : Int) == 48) = false := by rw [← bt_get d m hmd]; exact beq_eq_false_iff_ne.2 (by omega)
            clear h0
            go_wp2_with fail
            refine (zzFrac_cut d t (m + 1) v _ (by omega) (by omega) HD.out (by omega) (by omega) hzero.out HT.out ht1).mono ?_
            rintro e w2 ⟨rfl, q, rfl⟩
            go_wp2_with fail
            go_ret
            exact ⟨rfl, hg⟩
        · have hnd : decide ((1 : Int) < (n : Int)) = false := decide_eq_false (by omega)
          have hnn : ¬ ((1 : Int) < (n : Int)) := by omega
          go_wp2_with fail
          refine (zzFrac_cut d t (n) v _ (by omega) (by omega) HD.out (by omega) (by omega) hzero.out HT.out ht1).mono ?_
          rintro e w2 ⟨rfl, q, rfl⟩
          go_wp2_with fail
          go_ret
          exact ⟨rfl, hg⟩
  · have htn : decide ((0 : Int) < (t.size : Int)) = false := decide_eq_false (by omega)
    go_wp2_with fail
    refine (nine_any v _ (by omega) (by omega)).mono ?_
    rintro e w1 ⟨rfl, hg⟩
    obtain ⟨d, hd⟩ : ∃ d : ByteArray, d = ⟨(nineL v).toArray⟩ := ⟨_, rfl⟩
    have hsz : d.size = 9 := by rw [hd]; rfl
    rw [← hd]
    have HD : Hid (d = ⟨(nineL v).toArray⟩) := hd
    clear hd
    cases b with
    | false =>
      go_wp2_with fail
      refine (zzFrac_text d x t v _ (by omega) (by omega) (by omega) (by omega) (fun j hj => by rw [HD.out]) (fun j h h' => by omega) (fun h => by omega) HX.out HT.out hx1 ht1).mono ?_
      rintro e w2 ⟨rfl, q, rfl⟩
      go_wp2_with fail
      go_ret
      exact ⟨rfl, hg⟩
    | true =>
      go_wp2_with fail
      go_loop [11] (fun a => ∃ n : Nat, 1 ≤ n ∧ n ≤ 9 ∧ a = .int .i64 n ∧ Hid (∀ j, n ≤ j → j < 9 → bt d j = 48)) (fun a => (intOf a).toNat)
      case atStart => exact ⟨9, by omega, by omega, rfl, fun j h h' => by omega⟩
      case round =>
        obtain ⟨n, hn1, hn9, rfl, hzero⟩ := hrel
        by_cases hn : 1 < n
        · obtain ⟨m, rfl⟩ : ∃ m, n = m + 1 := ⟨n - 1, by omega⟩
          have hmd : m < d.size := by omega
          have em : (((m + 1 : Nat) : Int) - 1) = (m : Int) := by omega
          have hm1 : (1 : Int) < ((m + 1 : Nat) : Int) := by omega
          have hm9 : (m : Int) < 9 := by omega
          by_cases h0 : bt d m = 48
          · have hb : ((d[m].toNat : Int) == 48) = true := by rw [← bt_get d m hmd]; simp [h0]
            go_wp2_with fail
            go_round
            case rel => exact ⟨m, by omega, by omega, by go_num, zero_step hzero.out h0⟩
            case measure => simp [intOf]
          · have hb : ((d[m].toNat : Int) == 48) = false := by rw [← bt_get d m hmd]; exact beq_eq_false_iff_ne.2 (by omega)
            clear h0
            go_wp2_with fail
            refine (zzFrac_cut d t (m + 1) v _ (by omega) (by omega) HD.out (by omega) (by omega) hzero.out HT.out ht1).mono ?_
            rintro e w2 ⟨rfl, q, rfl⟩
            go_wp2_with fail
            go_ret
            exact ⟨rfl, hg⟩
        · have hnd : decide ((1 : Int) < (n : Int)) = false := decide_eq_false (by omega)
          have hnn : ¬ ((1 : Int) < (n : Int)) := by omega
          go_wp2_with fail
          refine (zzFrac_cut d t (n) v _ (by omega) (by omega) HD.out (by omega) (by omega) hzero.out HT.out ht1).mono ?_
          rintro e w2 ⟨rfl, q, rfl⟩
          go_wp2_with fail
          go_ret
          exact ⟨rfl, hg⟩
end Go.Proofs.Qxb6604227a.Cond
