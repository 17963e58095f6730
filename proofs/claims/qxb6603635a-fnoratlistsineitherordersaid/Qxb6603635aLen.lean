import Derived.Test.Qxb6603635aReads2
import Derived.Lib.Walk
import Derived.Lib.BitFns
namespace Go.Proofs.Qxb6603635a.Or
open Go.RowKit Go.Deep

theorem len_wrap (b : UInt8) : 0 ≤ wrap64 (wrap64 (b.toNat : Int)) ∧ wrap64 (wrap64 (b.toNat : Int)) ≤ 512 := by
  have := b.toNat_lt
  unfold wrap64
  omega
theorem len_wrap8 (b : UInt8) : 0 ≤ wrap64 (8 + wrap64 (b.toNat : Int)) ∧ wrap64 (8 + wrap64 (b.toNat : Int)) ≤ 512 := by
  have := b.toNat_lt
  unfold wrap64
  omega
theorem len_wrap16 (b : UInt8) : 0 ≤ wrap64 (16 + wrap64 (b.toNat : Int)) ∧ wrap64 (16 + wrap64 (b.toNat : Int)) ≤ 512 := by
  have := b.toNat_lt
  unfold wrap64
  omega

theorem tab_lt (x : Int) (h0 : 0 ≤ x) (h1 : x < 256) : x.toNat < Lib.len8tab.size := by
  have hsz : Lib.len8tab.size = 256 := by decide +kernel
  omega

set_option maxHeartbeats 4000000 in
set_option maxRecDepth 100000 in
/-- There is one small number that bits.Len64 hands back at x, in whatever world. -/
theorem len64_any (x : Int) (h0 : 0 ≤ x) (h1 : x ≤ 1048576) : ∃ L : Int, 0 ≤ L ∧ L ≤ 512 ∧ ∀ w : World, Calls Try.prog 26 #[.int .u64 x] w fun e w' => e = .returned (.int .i64 L) ∧ w' = w := by
  have hsz : Lib.len8tab.size = 256 := by decide +kernel
  by_cases ha : x < 256
  · refine ⟨_, (len_wrap (Lib.len8tab[x.toNat]'(tab_lt x h0 ha))).1, (len_wrap _).2, fun w => ?_⟩
    go_enter Try.func26, Try.ntmps26
    go_wp2
    go_ret
    exact ⟨rfl, rfl⟩
  · by_cases hb : x < 65536
    · refine ⟨_, (len_wrap8 (Lib.len8tab[(x / 256).toNat]'(tab_lt (x / 256) (by omega) (by omega)))).1, (len_wrap8 _).2, fun w => ?_⟩
      go_enter Try.func26, Try.ntmps26
      go_wp2
      go_ret
      exact ⟨rfl, rfl⟩
    · refine ⟨_, (len_wrap16 (Lib.len8tab[(x / 65536).toNat]'(tab_lt (x / 65536) (by omega) (by omega)))).1, (len_wrap16 _).2, fun w => ?_⟩
      go_enter Try.func26, Try.ntmps26
      go_wp2
      go_ret
      exact ⟨rfl, rfl⟩

theorem len_any (x : Int) (h0 : 0 ≤ x) (h1 : x ≤ 1048576) : ∃ L : Int, 0 ≤ L ∧ L ≤ 512 ∧ ∀ w : World, Calls Try.prog 21 #[.int .u64 x] w fun e w' => e = .returned (.int .i64 L) ∧ w' = w := by
  obtain ⟨L, hL0, hL1, hL⟩ := len64_any x h0 h1
  refine ⟨L, hL0, hL1, fun w => ?_⟩
  have HL : Hid (∀ w : World, Calls Try.prog 26 #[.int .u64 x] w fun e w' => e = .returned (.int .i64 L) ∧ w' = w) := hL
  clear hL
  go_enter Try.func21, Try.ntmps21
  go_wp2_with (go_at_call 26; refine (HL.out _).mono ?_; rintro e w' ⟨rfl, rfl⟩)
  go_ret
  exact ⟨rfl, rfl⟩
end Go.Proofs.Qxb6603635a.Or
