import Derived.Test.Qxb6604458aWalks
namespace Go.Proofs.Qxb6604458a.Num
open Go.RowKit
set_option linter.unusedVariables false

theorem ret_int {k : IntKind} {a b : Int} (h : a = b) : Ending.returned (.int k a) = .returned (.int k b) := by rw [h]
theorem lexn_lt {f g : Nat → Nat} {i : Nat} (h : lexn f g i = 0) (hl : f i < g i) : lexn f g (i + 1) = -1 := by simp only [lexn]; rw [if_pos h, if_pos hl]
theorem lexn_gt {f g : Nat → Nat} {i : Nat} (h : lexn f g i = 0) (hl : g i < f i) : lexn f g (i + 1) = 1 := by simp only [lexn]; rw [if_pos h, if_neg (by omega), if_pos hl]
theorem lexn_same {f g : Nat → Nat} {i : Nat} (h : lexn f g i = 0) (hl : f i = g i) : lexn f g (i + 1) = 0 := by simp only [lexn]; rw [if_pos h, if_neg (by omega), if_neg (by omega)]
theorem mag_whole {aw af bw bf : ByteArray} {i : Nat} {r : Int} (h : lexn (padL aw (wid aw bw)) (padL bw (wid aw bw)) (i + 1) = r) (hr : r ≠ 0) (hi : i < wid aw bw) : r = mag aw af bw bf := by
  have e := lexn_stay (padL aw (wid aw bw)) (padL bw (wid aw bw)) (n := i + 1) (m := wid aw bw) (by rw [h]; exact hr) (by omega)
  unfold mag
  rw [if_neg (by rw [e, h]; exact hr), e, h]
theorem mag_frac {aw af bw bf : ByteArray} {i : Nat} {r : Int} (h0 : lexn (padL aw (wid aw bw)) (padL bw (wid aw bw)) (wid aw bw) = 0) (h : lexn (padR af) (padR bf) (i + 1) = r) (hr : r ≠ 0) (hi : i < wid af bf) : r = mag aw af bw bf := by
  have e := lexn_stay (padR af) (padR bf) (n := i + 1) (m := wid af bf) (by rw [h]; exact hr) (by omega)
  unfold mag
  rw [if_pos h0, e, h]
theorem mag_zero {aw af bw bf : ByteArray} (h0 : lexn (padL aw (wid aw bw)) (padL bw (wid aw bw)) (wid aw bw) = 0) (h : lexn (padR af) (padR bf) (wid af bf) = 0) : 0 = mag aw af bw bf := by
  unfold mag
  rw [if_pos h0, h]
theorem padL_in {s : ByteArray} {w i : Nat} (hw : s.size ≤ w) (hi : i < w) (h : w - s.size ≤ i) : padL s w i = (s[i - (w - s.size)]'(by omega)).toNat := by
  unfold padL; rw [if_pos h, bt_get]
theorem padL_out {s : ByteArray} {w i : Nat} (h : i < w - s.size) : padL s w i = 48 := by unfold padL; rw [if_neg (by omega)]
theorem padR_in {s : ByteArray} {i : Nat} (h : i < s.size) : padR s i = s[i].toNat := by unfold padR; rw [if_pos h, bt_get]
theorem padR_out {s : ByteArray} {i : Nat} (h : ¬ i < s.size) : padR s i = 48 := by unfold padR; rw [if_neg h]

set_option maxHeartbeats 3200000 in
theorem mag_lt (aw af bw bf : ByteArray) (h1 : aw.size ≤ 1048576) (h2 : af.size ≤ 1048576) (h3 : bw.size ≤ 1048576) (h4 : bf.size ≤ 1048576) (w : World) (hw : aw.size < bw.size) :
    Calls Try.prog 24 #[.string aw, .string af, .string bw, .string bf] w fun e w' => e = .returned (.int .i64 (mag aw af bw bf)) ∧ w' = w := by
  have HW : Hid (wid aw bw = bw.size) := by unfold wid; rw [if_pos hw]; exact rfl
  go_enter Try.func24, Try.ntmps24
  go_wp2
  go_loop [10] (fun a => ∃ i : Nat, i ≤ bw.size ∧ a = .int .i64 i ∧ Hid (lexn (padL aw (wid aw bw)) (padL bw (wid aw bw)) i = 0)) (fun a => bw.size - (intOf a).toNat)
  case atStart => exact ⟨0, Nat.zero_le _, rfl, rfl⟩
  case round =>
    obtain ⟨i, hi, rfl, hl⟩ := hrel
    by_cases hlt : i < bw.size
    · have py : Hid (padL bw (wid aw bw) i = bw[i].toNat) := by
        rw [HW.out, padL_in (Nat.le_refl _) hlt (by omega)]
        show _ = _
        congr 2
        omega
      by_cases ha : bw.size - aw.size ≤ i
      · have ek : (i : Int) - ((bw.size : Int) - (aw.size : Int)) = ((i - (bw.size - aw.size) : Nat) : Int) := by omega
        have hk : i - (bw.size - aw.size) < aw.size := by omega
        have px : Hid (padL aw (wid aw bw) i = aw[i - (bw.size - aw.size)].toNat) := by rw [HW.out]; exact padL_in (by omega) hlt ha
        rcases Nat.lt_trichotomy (aw[i - (bw.size - aw.size)].toNat) (bw[i].toNat) with hc | hc | hc
        · have hne : (((aw[i - (bw.size - aw.size)].toNat : Nat) : Int) != ((bw[i].toNat : Nat) : Int)) = true := by rw [bne_iff_ne]; omega
          go_wp2
          go_ret
          exact ⟨ret_int (mag_whole (lexn_lt hl.out (by rw [px.out, py.out]; exact hc)) (by decide) (by rw [HW.out]; omega)), rfl⟩
        · have hne : (((aw[i - (bw.size - aw.size)].toNat : Nat) : Int) != ((bw[i].toNat : Nat) : Int)) = false := by rw [hc]; simp
          have HC : Hid (aw[i - (bw.size - aw.size)].toNat = bw[i].toNat) := hc
          clear hc
          go_wp2
          go_round
          case rel => exact ⟨i + 1, by omega, by go_num, lexn_same hl.out (by rw [px.out, py.out]; exact HC.out)⟩
          case measure => simp [intOf]; omega
        · have hne : (((aw[i - (bw.size - aw.size)].toNat : Nat) : Int) != ((bw[i].toNat : Nat) : Int)) = true := by rw [bne_iff_ne]; omega
          have hnl : ¬ (((aw[i - (bw.size - aw.size)].toNat : Nat) : Int) < ((bw[i].toNat : Nat) : Int)) := by omega
          go_wp2
          go_ret
          exact ⟨ret_int (mag_whole (lexn_gt hl.out (by rw [px.out, py.out]; exact hc)) (by decide) (by rw [HW.out]; omega)), rfl⟩
      · have px : Hid (padL aw (wid aw bw) i = 48) := by rw [HW.out]; exact padL_out (by omega)
        have ek : (i : Int) - ((bw.size : Int) - (aw.size : Int)) < 0 := by omega
        rcases Nat.lt_trichotomy (48) (bw[i].toNat) with hc | hc | hc
        · have hne : (((48 : Nat) : Int) != ((bw[i].toNat : Nat) : Int)) = true := by rw [bne_iff_ne]; omega
          go_wp2
          go_ret
          exact ⟨ret_int (mag_whole (lexn_lt hl.out (by rw [px.out, py.out]; exact hc)) (by decide) (by rw [HW.out]; omega)), rfl⟩
        · have hne : (((48 : Nat) : Int) != ((bw[i].toNat : Nat) : Int)) = false := by rw [hc]; simp
          have HC : Hid (48 = bw[i].toNat) := hc
          clear hc
          go_wp2
          go_round
          case rel => exact ⟨i + 1, by omega, by go_num, lexn_same hl.out (by rw [px.out, py.out]; exact HC.out)⟩
          case measure => simp [intOf]; omega
        · have hne : (((48 : Nat) : Int) != ((bw[i].toNat : Nat) : Int)) = true := by rw [bne_iff_ne]; omega
          have hnl : ¬ (((48 : Nat) : Int) < ((bw[i].toNat : Nat) : Int)) := by omega
          go_wp2
          go_ret
          exact ⟨ret_int (mag_whole (lexn_gt hl.out (by rw [px.out, py.out]; exact hc)) (by decide) (by rw [HW.out]; omega)), rfl⟩
    · obtain rfl : i = bw.size := by omega
      have H0 : Hid (lexn (padL aw (wid aw bw)) (padL bw (wid aw bw)) (wid aw bw) = 0) := by
        have e := hl.out
        show lexn _ _ _ = 0
        rw [HW.out] at e ⊢
        exact e
      clear hl
      by_cases hf : af.size < bf.size
      · have HF : Hid (wid af bf = bf.size) := by unfold wid; rw [if_pos hf]; exact rfl
        go_wp2
        go_loop [16] (fun a => ∃ i : Nat, i ≤ bf.size ∧ a = .int .i64 i ∧ Hid (lexn (padR af) (padR bf) i = 0)) (fun a => bf.size - (intOf a).toNat)
        case atStart => exact ⟨0, Nat.zero_le _, rfl, rfl⟩
        case round =>
          obtain ⟨i, hi, rfl, hl⟩ := hrel
          by_cases hlt : i < bf.size
          · have py : Hid (padR bf i = bf[i].toNat) := padR_in hlt
            by_cases ha : i < af.size
            · have px : Hid (padR af i = af[i].toNat) := padR_in ha
              rcases Nat.lt_trichotomy (af[i].toNat) (bf[i].toNat) with hc | hc | hc
              · have hne : (((af[i].toNat : Nat) : Int) != ((bf[i].toNat : Nat) : Int)) = true := by rw [bne_iff_ne]; omega
                go_wp2
                go_ret
                exact ⟨ret_int (mag_frac H0.out (lexn_lt hl.out (by rw [px.out, py.out]; exact hc)) (by decide) (by rw [HF.out]; omega)), rfl⟩
              · have hne : (((af[i].toNat : Nat) : Int) != ((bf[i].toNat : Nat) : Int)) = false := by rw [hc]; simp
                have HC : Hid (af[i].toNat = bf[i].toNat) := hc
                clear hc
                go_wp2
                go_round
                case rel => exact ⟨i + 1, by omega, by go_num, lexn_same hl.out (by rw [px.out, py.out]; exact HC.out)⟩
                case measure => simp [intOf]; omega
              · have hne : (((af[i].toNat : Nat) : Int) != ((bf[i].toNat : Nat) : Int)) = true := by rw [bne_iff_ne]; omega
                have hnl : ¬ (((af[i].toNat : Nat) : Int) < ((bf[i].toNat : Nat) : Int)) := by omega
                go_wp2
                go_ret
                exact ⟨ret_int (mag_frac H0.out (lexn_gt hl.out (by rw [px.out, py.out]; exact hc)) (by decide) (by rw [HF.out]; omega)), rfl⟩
            · have px : Hid (padR af i = 48) := padR_out ha
              rcases Nat.lt_trichotomy (48) (bf[i].toNat) with hc | hc | hc
              · have hne : (((48 : Nat) : Int) != ((bf[i].toNat : Nat) : Int)) = true := by rw [bne_iff_ne]; omega
                go_wp2
                go_ret
                exact ⟨ret_int (mag_frac H0.out (lexn_lt hl.out (by rw [px.out, py.out]; exact hc)) (by decide) (by rw [HF.out]; omega)), rfl⟩
              · have hne : (((48 : Nat) : Int) != ((bf[i].toNat : Nat) : Int)) = false := by rw [hc]; simp
                have HC : Hid (48 = bf[i].toNat) := hc
                clear hc
                go_wp2
                go_round
                case rel => exact ⟨i + 1, by omega, by go_num, lexn_same hl.out (by rw [px.out, py.out]; exact HC.out)⟩
                case measure => simp [intOf]; omega
              · have hne : (((48 : Nat) : Int) != ((bf[i].toNat : Nat) : Int)) = true := by rw [bne_iff_ne]; omega
                have hnl : ¬ (((48 : Nat) : Int) < ((bf[i].toNat : Nat) : Int)) := by omega
                go_wp2
                go_ret
                exact ⟨ret_int (mag_frac H0.out (lexn_gt hl.out (by rw [px.out, py.out]; exact hc)) (by decide) (by rw [HF.out]; omega)), rfl⟩
          · obtain rfl : i = bf.size := by omega
            go_wp2
            go_ret
            exact ⟨ret_int (mag_zero H0.out (by rw [HF.out]; exact hl.out)), rfl⟩
      · have HF : Hid (wid af bf = af.size) := by unfold wid; rw [if_neg hf]; exact rfl
        go_wp2
        go_loop [16] (fun a => ∃ i : Nat, i ≤ af.size ∧ a = .int .i64 i ∧ Hid (lexn (padR af) (padR bf) i = 0)) (fun a => af.size - (intOf a).toNat)
        case atStart => exact ⟨0, Nat.zero_le _, rfl, rfl⟩
        case round =>
          obtain ⟨i, hi, rfl, hl⟩ := hrel
          by_cases hlt : i < af.size
          · have px : Hid (padR af i = af[i].toNat) := padR_in hlt
            by_cases hb : i < bf.size
            · have py : Hid (padR bf i = bf[i].toNat) := padR_in hb
              rcases Nat.lt_trichotomy (af[i].toNat) (bf[i].toNat) with hc | hc | hc
              · have hne : (((af[i].toNat : Nat) : Int) != ((bf[i].toNat : Nat) : Int)) = true := by rw [bne_iff_ne]; omega
                go_wp2
                go_ret
                exact ⟨ret_int (mag_frac H0.out (lexn_lt hl.out (by rw [px.out, py.out]; exact hc)) (by decide) (by rw [HF.out]; omega)), rfl⟩
              · have hne : (((af[i].toNat : Nat) : Int) != ((bf[i].toNat : Nat) : Int)) = false := by rw [hc]; simp
                have HC : Hid (af[i].toNat = bf[i].toNat) := hc
                clear hc
                go_wp2
                go_round
                case rel => exact ⟨i + 1, by omega, by go_num, lexn_same hl.out (by rw [px.out, py.out]; exact HC.out)⟩
                case measure => simp [intOf]; omega
              · have hne : (((af[i].toNat : Nat) : Int) != ((bf[i].toNat : Nat) : Int)) = true := by rw [bne_iff_ne]; omega
                have hnl : ¬ (((af[i].toNat : Nat) : Int) < ((bf[i].toNat : Nat) : Int)) := by omega
                go_wp2
                go_ret
                exact ⟨ret_int (mag_frac H0.out (lexn_gt hl.out (by rw [px.out, py.out]; exact hc)) (by decide) (by rw [HF.out]; omega)), rfl⟩
            · have py : Hid (padR bf i = 48) := padR_out hb
              rcases Nat.lt_trichotomy (af[i].toNat) (48) with hc | hc | hc
              · have hne : (((af[i].toNat : Nat) : Int) != ((48 : Nat) : Int)) = true := by rw [bne_iff_ne]; omega
                go_wp2
                go_ret
                exact ⟨ret_int (mag_frac H0.out (lexn_lt hl.out (by rw [px.out, py.out]; exact hc)) (by decide) (by rw [HF.out]; omega)), rfl⟩
              · have hne : (((af[i].toNat : Nat) : Int) != ((48 : Nat) : Int)) = false := by rw [hc]; simp
                have HC : Hid (af[i].toNat = 48) := hc
                clear hc
                go_wp2
                go_round
                case rel => exact ⟨i + 1, by omega, by go_num, lexn_same hl.out (by rw [px.out, py.out]; exact HC.out)⟩
                case measure => simp [intOf]; omega
              · have hne : (((af[i].toNat : Nat) : Int) != ((48 : Nat) : Int)) = true := by rw [bne_iff_ne]; omega
                have hnl : ¬ (((af[i].toNat : Nat) : Int) < ((48 : Nat) : Int)) := by omega
                go_wp2
                go_ret
                exact ⟨ret_int (mag_frac H0.out (lexn_gt hl.out (by rw [px.out, py.out]; exact hc)) (by decide) (by rw [HF.out]; omega)), rfl⟩
          · obtain rfl : i = af.size := by omega
            go_wp2
            go_ret
            exact ⟨ret_int (mag_zero H0.out (by rw [HF.out]; exact hl.out)), rfl⟩

set_option maxHeartbeats 3200000 in
theorem mag_ge (aw af bw bf : ByteArray) (h1 : aw.size ≤ 1048576) (h2 : af.size ≤ 1048576) (h3 : bw.size ≤ 1048576) (h4 : bf.size ≤ 1048576) (w : World) (hw : ¬ aw.size < bw.size) :
    Calls Try.prog 24 #[.string aw, .string af, .string bw, .string bf] w fun e w' => e = .returned (.int .i64 (mag aw af bw bf)) ∧ w' = w := by
  have HW : Hid (wid aw bw = aw.size) := by unfold wid; rw [if_neg hw]; exact rfl
  go_enter Try.func24, Try.ntmps24
  go_wp2
  go_loop [10] (fun a => ∃ i : Nat, i ≤ aw.size ∧ a = .int .i64 i ∧ Hid (lexn (padL aw (wid aw bw)) (padL bw (wid aw bw)) i = 0)) (fun a => aw.size - (intOf a).toNat)
  case atStart => exact ⟨0, Nat.zero_le _, rfl, rfl⟩
  case round =>
    obtain ⟨i, hi, rfl, hl⟩ := hrel
    by_cases hlt : i < aw.size
    · have px : Hid (padL aw (wid aw bw) i = aw[i].toNat) := by
        rw [HW.out, padL_in (Nat.le_refl _) hlt (by omega)]
        show _ = _
        congr 2
        omega
      by_cases ha : aw.size - bw.size ≤ i
      · have ek : (i : Int) - ((aw.size : Int) - (bw.size : Int)) = ((i - (aw.size - bw.size) : Nat) : Int) := by omega
        have hk : i - (aw.size - bw.size) < bw.size := by omega
        have py : Hid (padL bw (wid aw bw) i = bw[i - (aw.size - bw.size)].toNat) := by rw [HW.out]; exact padL_in (by omega) hlt ha
        rcases Nat.lt_trichotomy (aw[i].toNat) (bw[i - (aw.size - bw.size)].toNat) with hc | hc | hc
        · have hne : (((aw[i].toNat : Nat) : Int) != ((bw[i - (aw.size - bw.size)].toNat : Nat) : Int)) = true := by rw [bne_iff_ne]; omega
          go_wp2
          go_ret
          exact ⟨ret_int (mag_whole (lexn_lt hl.out (by rw [px.out, py.out]; exact hc)) (by decide) (by rw [HW.out]; omega)), rfl⟩
        · have hne : (((aw[i].toNat : Nat) : Int) != ((bw[i - (aw.size - bw.size)].toNat : Nat) : Int)) = false := by rw [hc]; simp
          have HC : Hid (aw[i].toNat = bw[i - (aw.size - bw.size)].toNat) := hc
          clear hc
          go_wp2
          go_round
          case rel => exact ⟨i + 1, by omega, by go_num, lexn_same hl.out (by rw [px.out, py.out]; exact HC.out)⟩
          case measure => simp [intOf]; omega
        · have hne : (((aw[i].toNat : Nat) : Int) != ((bw[i - (aw.size - bw.size)].toNat : Nat) : Int)) = true := by rw [bne_iff_ne]; omega
          have hnl : ¬ (((aw[i].toNat : Nat) : Int) < ((bw[i - (aw.size - bw.size)].toNat : Nat) : Int)) := by omega
          go_wp2
          go_ret
          exact ⟨ret_int (mag_whole (lexn_gt hl.out (by rw [px.out, py.out]; exact hc)) (by decide) (by rw [HW.out]; omega)), rfl⟩
      · have py : Hid (padL bw (wid aw bw) i = 48) := by rw [HW.out]; exact padL_out (by omega)
        have ek : (i : Int) - ((aw.size : Int) - (bw.size : Int)) < 0 := by omega
        rcases Nat.lt_trichotomy (aw[i].toNat) (48) with hc | hc | hc
        · have hne : (((aw[i].toNat : Nat) : Int) != ((48 : Nat) : Int)) = true := by rw [bne_iff_ne]; omega
          go_wp2
          go_ret
          exact ⟨ret_int (mag_whole (lexn_lt hl.out (by rw [px.out, py.out]; exact hc)) (by decide) (by rw [HW.out]; omega)), rfl⟩
        · have hne : (((aw[i].toNat : Nat) : Int) != ((48 : Nat) : Int)) = false := by rw [hc]; simp
          have HC : Hid (aw[i].toNat = 48) := hc
          clear hc
          go_wp2
          go_round
          case rel => exact ⟨i + 1, by omega, by go_num, lexn_same hl.out (by rw [px.out, py.out]; exact HC.out)⟩
          case measure => simp [intOf]; omega
        · have hne : (((aw[i].toNat : Nat) : Int) != ((48 : Nat) : Int)) = true := by rw [bne_iff_ne]; omega
          have hnl : ¬ (((aw[i].toNat : Nat) : Int) < ((48 : Nat) : Int)) := by omega
          go_wp2
          go_ret
          exact ⟨ret_int (mag_whole (lexn_gt hl.out (by rw [px.out, py.out]; exact hc)) (by decide) (by rw [HW.out]; omega)), rfl⟩
    · obtain rfl : i = aw.size := by omega
      have H0 : Hid (lexn (padL aw (wid aw bw)) (padL bw (wid aw bw)) (wid aw bw) = 0) := by
        have e := hl.out
        show lexn _ _ _ = 0
        rw [HW.out] at e ⊢
        exact e
      clear hl
      by_cases hf : af.size < bf.size
      · have HF : Hid (wid af bf = bf.size) := by unfold wid; rw [if_pos hf]; exact rfl
        go_wp2
        go_loop [16] (fun a => ∃ i : Nat, i ≤ bf.size ∧ a = .int .i64 i ∧ Hid (lexn (padR af) (padR bf) i = 0)) (fun a => bf.size - (intOf a).toNat)
        case atStart => exact ⟨0, Nat.zero_le _, rfl, rfl⟩
        case round =>
          obtain ⟨i, hi, rfl, hl⟩ := hrel
          by_cases hlt : i < bf.size
          · have py : Hid (padR bf i = bf[i].toNat) := padR_in hlt
            by_cases ha : i < af.size
            · have px : Hid (padR af i = af[i].toNat) := padR_in ha
              rcases Nat.lt_trichotomy (af[i].toNat) (bf[i].toNat) with hc | hc | hc
              · have hne : (((af[i].toNat : Nat) : Int) != ((bf[i].toNat : Nat) : Int)) = true := by rw [bne_iff_ne]; omega
                go_wp2
                go_ret
                exact ⟨ret_int (mag_frac H0.out (lexn_lt hl.out (by rw [px.out, py.out]; exact hc)) (by decide) (by rw [HF.out]; omega)), rfl⟩
              · have hne : (((af[i].toNat : Nat) : Int) != ((bf[i].toNat : Nat) : Int)) = false := by rw [hc]; simp
                have HC : Hid (af[i].toNat = bf[i].toNat) := hc
                clear hc
                go_wp2
                go_round
                case rel => exact ⟨i + 1, by omega, by go_num, lexn_same hl.out (by rw [px.out, py.out]; exact HC.out)⟩
                case measure => simp [intOf]; omega
              · have hne : (((af[i].toNat : Nat) : Int) != ((bf[i].toNat : Nat) : Int)) = true := by rw [bne_iff_ne]; omega
                have hnl : ¬ (((af[i].toNat : Nat) : Int) < ((bf[i].toNat : Nat) : Int)) := by omega
                go_wp2
                go_ret
                exact ⟨ret_int (mag_frac H0.out (lexn_gt hl.out (by rw [px.out, py.out]; exact hc)) (by decide) (by rw [HF.out]; omega)), rfl⟩
            · have px : Hid (padR af i = 48) := padR_out ha
              rcases Nat.lt_trichotomy (48) (bf[i].toNat) with hc | hc | hc
              · have hne : (((48 : Nat) : Int) != ((bf[i].toNat : Nat) : Int)) = true := by rw [bne_iff_ne]; omega
                go_wp2
                go_ret
                exact ⟨ret_int (mag_frac H0.out (lexn_lt hl.out (by rw [px.out, py.out]; exact hc)) (by decide) (by rw [HF.out]; omega)), rfl⟩
              · have hne : (((48 : Nat) : Int) != ((bf[i].toNat : Nat) : Int)) = false := by rw [hc]; simp
                have HC : Hid (48 = bf[i].toNat) := hc
                clear hc
                go_wp2
                go_round
                case rel => exact ⟨i + 1, by omega, by go_num, lexn_same hl.out (by rw [px.out, py.out]; exact HC.out)⟩
                case measure => simp [intOf]; omega
              · have hne : (((48 : Nat) : Int) != ((bf[i].toNat : Nat) : Int)) = true := by rw [bne_iff_ne]; omega
                have hnl : ¬ (((48 : Nat) : Int) < ((bf[i].toNat : Nat) : Int)) := by omega
                go_wp2
                go_ret
                exact ⟨ret_int (mag_frac H0.out (lexn_gt hl.out (by rw [px.out, py.out]; exact hc)) (by decide) (by rw [HF.out]; omega)), rfl⟩
          · obtain rfl : i = bf.size := by omega
            go_wp2
            go_ret
            exact ⟨ret_int (mag_zero H0.out (by rw [HF.out]; exact hl.out)), rfl⟩
      · have HF : Hid (wid af bf = af.size) := by unfold wid; rw [if_neg hf]; exact rfl
        go_wp2
        go_loop [16] (fun a => ∃ i : Nat, i ≤ af.size ∧ a = .int .i64 i ∧ Hid (lexn (padR af) (padR bf) i = 0)) (fun a => af.size - (intOf a).toNat)
        case atStart => exact ⟨0, Nat.zero_le _, rfl, rfl⟩
        case round =>
          obtain ⟨i, hi, rfl, hl⟩ := hrel
          by_cases hlt : i < af.size
          · have px : Hid (padR af i = af[i].toNat) := padR_in hlt
            by_cases hb : i < bf.size
            · have py : Hid (padR bf i = bf[i].toNat) := padR_in hb
              rcases Nat.lt_trichotomy (af[i].toNat) (bf[i].toNat) with hc | hc | hc
              · have hne : (((af[i].toNat : Nat) : Int) != ((bf[i].toNat : Nat) : Int)) = true := by rw [bne_iff_ne]; omega
                go_wp2
                go_ret
                exact ⟨ret_int (mag_frac H0.out (lexn_lt hl.out (by rw [px.out, py.out]; exact hc)) (by decide) (by rw [HF.out]; omega)), rfl⟩
              · have hne : (((af[i].toNat : Nat) : Int) != ((bf[i].toNat : Nat) : Int)) = false := by rw [hc]; simp
                have HC : Hid (af[i].toNat = bf[i].toNat) := hc
                clear hc
                go_wp2
                go_round
                case rel => exact ⟨i + 1, by omega, by go_num, lexn_same hl.out (by rw [px.out, py.out]; exact HC.out)⟩
                case measure => simp [intOf]; omega
              · have hne : (((af[i].toNat : Nat) : Int) != ((bf[i].toNat : Nat) : Int)) = true := by rw [bne_iff_ne]; omega
                have hnl : ¬ (((af[i].toNat : Nat) : Int) < ((bf[i].toNat : Nat) : Int)) := by omega
                go_wp2
                go_ret
                exact ⟨ret_int (mag_frac H0.out (lexn_gt hl.out (by rw [px.out, py.out]; exact hc)) (by decide) (by rw [HF.out]; omega)), rfl⟩
            · have py : Hid (padR bf i = 48) := padR_out hb
              rcases Nat.lt_trichotomy (af[i].toNat) (48) with hc | hc | hc
              · have hne : (((af[i].toNat : Nat) : Int) != ((48 : Nat) : Int)) = true := by rw [bne_iff_ne]; omega
                go_wp2
                go_ret
                exact ⟨ret_int (mag_frac H0.out (lexn_lt hl.out (by rw [px.out, py.out]; exact hc)) (by decide) (by rw [HF.out]; omega)), rfl⟩
              · have hne : (((af[i].toNat : Nat) : Int) != ((48 : Nat) : Int)) = false := by rw [hc]; simp
                have HC : Hid (af[i].toNat = 48) := hc
                clear hc
                go_wp2
                go_round
                case rel => exact ⟨i + 1, by omega, by go_num, lexn_same hl.out (by rw [px.out, py.out]; exact HC.out)⟩
                case measure => simp [intOf]; omega
              · have hne : (((af[i].toNat : Nat) : Int) != ((48 : Nat) : Int)) = true := by rw [bne_iff_ne]; omega
                have hnl : ¬ (((af[i].toNat : Nat) : Int) < ((48 : Nat) : Int)) := by omega
                go_wp2
                go_ret
                exact ⟨ret_int (mag_frac H0.out (lexn_gt hl.out (by rw [px.out, py.out]; exact hc)) (by decide) (by rw [HF.out]; omega)), rfl⟩
          · obtain rfl : i = af.size := by omega
            go_wp2
            go_ret
            exact ⟨ret_int (mag_zero H0.out (by rw [HF.out]; exact hl.out)), rfl⟩


theorem mag_any (aw af bw bf : ByteArray) (h1 : aw.size ≤ 1048576) (h2 : af.size ≤ 1048576) (h3 : bw.size ≤ 1048576) (h4 : bf.size ≤ 1048576) (w : World) :
    Calls Try.prog 24 #[.string aw, .string af, .string bw, .string bf] w fun e w' => e = .returned (.int .i64 (mag aw af bw bf)) ∧ w' = w := by
  by_cases hw : aw.size < bw.size
  · exact mag_lt aw af bw bf h1 h2 h3 h4 w hw
  · exact mag_ge aw af bw bf h1 h2 h3 h4 w hw
end Go.Proofs.Qxb6604458a.Num
