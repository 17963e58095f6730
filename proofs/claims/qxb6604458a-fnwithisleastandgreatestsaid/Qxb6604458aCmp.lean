import Derived.Test.Qxb6604458aMag
import Derived.Lib.Walk
import Derived.Lib.Bytealg
namespace Go.Proofs.Qxb6604458a.Num
open Go.RowKit
set_option linter.unusedVariables false

theorem valueCmp_any (an : Bool) (aw af : ByteArray) (bn : Bool) (bw bf : ByteArray) (h1 : aw.size ≤ 1048576) (h2 : af.size ≤ 1048576) (h3 : bw.size ≤ 1048576) (h4 : bf.size ≤ 1048576) (w : World) :
    Calls Try.prog 8 #[.bool an, .string aw, .string af, .bool bn, .string bw, .string bf] w fun e w' => e = .returned (.int .i64 (val an aw af bn bw bf)) ∧ w' = w := by
  have hm := mag_val aw af bw bf
  obtain ⟨m, hmm⟩ : ∃ m, m = mag aw af bw bf := ⟨_, rfl⟩
  rw [← hmm] at hm
  have HM : Hid (m = mag aw af bw bf) := hmm
  have HC : Hid (∀ w, Calls Try.prog 24 #[.string aw, .string af, .string bw, .string bf] w fun e w' => e = .returned (.int .i64 m) ∧ w' = w) := fun w => by rw [hmm]; exact mag_any aw af bw bf h1 h2 h3 h4 w
  clear hmm
  obtain ⟨hm1, hm2⟩ := hm
  cases an <;> cases bn
  · go_enter Try.func8, Try.ntmps8
    go_wp2_with (go_at_call 24; refine (HC.out _).mono ?_; rintro e w' ⟨rfl, rfl⟩)
    go_ret
    exact ⟨ret_int HM.out, rfl⟩
  · go_enter Try.func8, Try.ntmps8
    go_wp2
    go_ret
    exact ⟨rfl, rfl⟩
  · go_enter Try.func8, Try.ntmps8
    go_wp2
    go_ret
    exact ⟨rfl, rfl⟩
  · go_enter Try.func8, Try.ntmps8
    go_wp2_with (go_at_call 24; refine (HC.out _).mono ?_; rintro e w' ⟨rfl, rfl⟩)
    go_ret
    exact ⟨ret_int (congrArg (fun x : Int => -x) HM.out), rfl⟩

set_option maxRecDepth 100000 in
theorem compareString_any (a b : ByteArray) (w : World) :
    Calls Try.prog 32 #[.string a, .string b] w fun e w' => e = .returned (.int .i64 (Lib.compareBytes a.data.toList b.data.toList)) ∧ w' = w := by
  go_enter Try.func32, Try.ntmps32
  go_wp2
  rw [run_callFunc_extern Try.func33 (by kernel_rfl) (by kernel_rfl) (by kernel_rfl) (e := Extern.BytealgCompare.compare) (by kernel_rfl), Lib.run_compareString]
  simp only [Result.andThen]
  rw [Oper.upon_value]
  go_wp2
  go_ret
  exact ⟨rfl, rfl⟩
theorem stringsCompare_any (a b : ByteArray) (w : World) :
    Calls Try.prog 30 #[.string a, .string b] w fun e w' => e = .returned (.int .i64 (Lib.compareBytes a.data.toList b.data.toList)) ∧ w' = w := by
  go_enter Try.func30, Try.ntmps30
  go_wp2_with (go_at_call 32; refine (compareString_any _ _ _).mono ?_; rintro e w' ⟨rfl, rfl⟩)
  go_ret
  exact ⟨rfl, rfl⟩
theorem compareInt_any (x y : Int) (w : World) : Calls Try.prog 29 #[.int .i64 x, .int .i64 y] w fun e w' => e = .returned (.int .i64 (cmpI x y)) ∧ w' = w := by
  by_cases h1 : x < y
  · have e : cmpI x y = -1 := by simp [cmpI, h1]
    rw [e]
    go_enter Try.func29, Try.ntmps29
    go_wp2
    go_ret
    exact ⟨rfl, rfl⟩
  · by_cases h2 : y < x
    · have e : cmpI x y = 1 := by simp [cmpI, h1, h2]
      rw [e]
      go_enter Try.func29, Try.ntmps29
      go_wp2
      go_ret
      exact ⟨rfl, rfl⟩
    · obtain rfl : x = y := by omega
      have e : cmpI x x = 0 := by simp [cmpI]
      rw [e]
      go_enter Try.func29, Try.ntmps29
      go_wp2
      go_ret
      exact ⟨rfl, rfl⟩

theorem compareBytes_val (a b : List UInt8) : -1 ≤ Lib.compareBytes a b ∧ Lib.compareBytes a b ≤ 1 := by
  rw [compareBytes_lex]
  dsimp only
  split
  · unfold cmpI; split
    · omega
    · split <;> omega
  · rcases lexn_val (fun i => (a.getD i 0).toNat) (fun i => (b.getD i 0).toNat) (min a.length b.length) with h | h | h <;> omega

theorem cmpI_val (x y : Int) : -1 ≤ cmpI x y ∧ cmpI x y ≤ 1 := by
  unfold cmpI
  split
  · omega
  · split <;> omega

/-- What compare hands back. -/
def CmpPost (r : Int) (W : World) (e : Ending) (w' : World) : Prop := e = .returned (.int .i64 r) ∧ w' = W
theorem cmpPost_neg {r m : Int} {W : World} (h : m = r) : CmpPost (-r) W (.returned (.int .i64 (-m))) W := ⟨by rw [h], rfl⟩
theorem cmpPost_pos {r m : Int} {W : World} (h : m = r) : CmpPost r W (.returned (.int .i64 m)) W := ⟨by rw [h], rfl⟩
/-- The world behind compare: its two boxes. -/
abbrev boxed (w : World) (an : Bool) (aw af : ByteArray) (bn : Bool) (bw bf : ByteArray) : World := (w.alloc (.cells #[.bool an, .string aw, .string af] 26)).alloc (.cells #[.bool bn, .string bw, .string bf] 26)

theorem below2 (w : World) (o o' : Obj) : Below w.heap.size w ((w.alloc o).alloc o') := ((Below.refl _ _).alloc (Nat.le_refl _) _).alloc (by simp) _

set_option maxHeartbeats 1600000 in
/-- compare on two numbers of the same sign. -/
theorem compare_same (n : Bool) (aw af bw bf : ByteArray) (h1 : aw.size ≤ 1048576) (h2 : af.size ≤ 1048576) (h3 : bw.size ≤ 1048576) (h4 : bf.size ≤ 1048576) (w : World) :
    Calls Try.prog 27 #[.agg #[.bool n, .string aw, .string af], .agg #[.bool n, .string bw, .string bf]] w (CmpPost (if n then - cmpM aw af bw bf else cmpM aw af bw bf) (boxed w n aw af n bw bf)) := by
  obtain ⟨x, hx⟩ : ∃ x, x = Lib.compareBytes aw.data.toList bw.data.toList := ⟨_, rfl⟩
  obtain ⟨y, hy⟩ : ∃ y, y = Lib.compareBytes af.data.toList bf.data.toList := ⟨_, rfl⟩
  have bx := compareBytes_val aw.data.toList bw.data.toList
  have by' := compareBytes_val af.data.toList bf.data.toList
  rw [← hx] at bx
  rw [← hy] at by'
  obtain ⟨bx1, bx2⟩ := bx
  obtain ⟨by1, by2⟩ := by'
  have CX : Hid (∀ w, Calls Try.prog 30 #[.string aw, .string bw] w fun e w' => e = .returned (.int .i64 x) ∧ w' = w) := fun w => by rw [hx]; exact stringsCompare_any aw bw w
  have CY : Hid (∀ w, Calls Try.prog 30 #[.string af, .string bf] w fun e w' => e = .returned (.int .i64 y) ∧ w' = w) := fun w => by rw [hy]; exact stringsCompare_any af bf w
  by_cases hc : cmpI (aw.size : Int) (bw.size : Int) = 0
  · have hcb : (cmpI (aw.size : Int) (bw.size : Int) == 0) = true := by simp [hc]
    by_cases hxz : x = 0
    · have HM : Hid (y = cmpM aw af bw bf) := by show _ = _; unfold cmpM; rw [if_pos hc, ← hx, if_pos hxz, ← hy]
      have hxb : (x == 0) = true := by simp [hxz]
      clear hx hy hc hxz
      cases n
      all_goals
        go_enter Try.func27, Try.ntmps27
        go_wp2_with (go_at_call 29; refine (compareInt_any _ _ _).mono ?_; rintro e w' ⟨rfl, rfl⟩)
        refine (CX.out _).mono ?_
        rintro e w' ⟨rfl, rfl⟩
        go_wp2_with fail
        refine (CY.out _).mono ?_
        rintro e w' ⟨rfl, rfl⟩
        go_wp2_with fail
        go_ret
        first
          | exact cmpPost_pos HM.out
          | exact cmpPost_neg HM.out
    · have HM : Hid (x = cmpM aw af bw bf) := by show _ = _; unfold cmpM; rw [if_pos hc, ← hx, if_neg hxz]
      have hxb : (x == 0) = false := by simp [hxz]
      clear hx hy hc hxz
      cases n
      all_goals
        go_enter Try.func27, Try.ntmps27
        go_wp2_with (go_at_call 29; refine (compareInt_any _ _ _).mono ?_; rintro e w' ⟨rfl, rfl⟩)
        refine (CX.out _).mono ?_
        rintro e w' ⟨rfl, rfl⟩
        go_wp2_with fail
        go_ret
        first
          | exact cmpPost_pos HM.out
          | exact cmpPost_neg HM.out
  · have hcb : (cmpI (aw.size : Int) (bw.size : Int) == 0) = false := by simp [hc]
    have HM : Hid (cmpI (aw.size : Int) (bw.size : Int) = cmpM aw af bw bf) := by show _ = _; unfold cmpM; rw [if_neg hc]
    obtain ⟨bc1, bc2⟩ := cmpI_val (aw.size : Int) (bw.size : Int)
    clear hx hy hc
    cases n
    all_goals
      go_enter Try.func27, Try.ntmps27
      go_wp2_with (go_at_call 29; refine (compareInt_any _ _ _).mono ?_; rintro e w' ⟨rfl, rfl⟩)
      go_ret
      first
        | exact cmpPost_pos HM.out
        | exact cmpPost_neg HM.out

theorem compare_diff (n : Bool) (aw af bw bf : ByteArray) (w : World) :
    Calls Try.prog 27 #[.agg #[.bool n, .string aw, .string af], .agg #[.bool (!n), .string bw, .string bf]] w (CmpPost (if n then -1 else 1) (boxed w n aw af (!n) bw bf)) := by
  cases n
  all_goals
    go_enter Try.func27, Try.ntmps27
    go_wp2
    go_ret
    exact ⟨rfl, rfl⟩

/-- (number).compare of two canonical numbers is valueCmp. -/
theorem compare_any (an : Bool) (aw af : ByteArray) (bn : Bool) (bw bf : ByteArray) (h1 : aw.size ≤ 1048576) (h2 : af.size ≤ 1048576) (h3 : bw.size ≤ 1048576) (h4 : bf.size ≤ 1048576) (ca : Canon aw af) (cb : Canon bw bf) (w : World) :
    Calls Try.prog 27 #[.agg #[.bool an, .string aw, .string af], .agg #[.bool bn, .string bw, .string bf]] w (CmpPost (val an aw af bn bw bf) (boxed w an aw af bn bw bf)) := by
  by_cases e : bn = an
  · subst e
    have h := compare_same bn aw af bw bf h1 h2 h3 h4 w
    rw [cmpM_eq ca cb] at h
    cases bn
    · exact h
    · exact h
  · have e' : bn = !an := by cases an <;> cases bn <;> simp_all
    subst e'
    have h := compare_diff an aw af bw bf w
    cases an
    · exact h
    · exact h
end Go.Proofs.Qxb6604458a.Num
