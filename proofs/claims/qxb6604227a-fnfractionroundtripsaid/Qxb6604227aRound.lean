import Derived.Test.Qxb6604227aNine
namespace Go.Proofs.Qxb6604227a.Cond
open Go.RowKit
set_option linter.unusedVariables false

/-! ### Plain: strings put together -/
theorem append_data (a b : ByteArray) : (a ++ b).data.toList = a.data.toList ++ b.data.toList := by simp [ByteArray.data_append]
theorem bt_left (a b : ByteArray) (i : Nat) (h : i < a.size) : bt (a ++ b) i = bt a i := by
  have h' : i < a.data.toList.length := by rw [← Lib.size_eq]; exact h
  unfold bt
  rw [append_data]
  simp [List.getD, List.getElem?_append_left h']
theorem bt_right (a b : ByteArray) (i : Nat) (h : a.size ≤ i) : bt (a ++ b) i = bt b (i - a.size) := by
  have h' : a.data.toList.length ≤ i := by rw [← Lib.size_eq]; exact h
  unfold bt
  rw [append_data]
  simp only [List.getD, List.getElem?_append_right h', ← Lib.size_eq]
theorem bytes_ext {a b : ByteArray} (h : a.data.toList = b.data.toList) : a = b := by
  obtain ⟨a⟩ := a; obtain ⟨b⟩ := b
  simp at h
  rw [h]
theorem extract_right (a b : ByteArray) (n : Nat) (h : n = a.size) : (a ++ b).extract n (a ++ b).size = b := by
  apply bytes_ext
  rw [Lib.extract_to_end, append_data, h, Lib.size_eq, List.drop_left]

theorem bt_nine (v : Int) (h0 : 0 ≤ v) (j : Nat) (hj : j < 9) : IsDig (bt ⟨(nineL v).toArray⟩ j) := by
  have : j = 0 ∨ j = 1 ∨ j = 2 ∨ j = 3 ∨ j = 4 ∨ j = 5 ∨ j = 6 ∨ j = 7 ∨ j = 8 := by omega
  unfold IsDig bt
  have key : ∀ x : Int, 48 ≤ (dg x).toNat ∧ (dg x).toNat ≤ 57 := fun x => by have := dg_toNat x; omega
  rcases this with rfl | rfl | rfl | rfl | rfl | rfl | rfl | rfl | rfl <;> exact key _

theorem N_nine (s : ByteArray) (r : Nat) (v : Int) (h0 : 0 ≤ v) (h1 : v ≤ 999999999) (h : ∀ j, j < 9 → D s r (j + 1) = bt ⟨(nineL v).toArray⟩ j - 48) : ((N s r 9 : Nat) : Int) = v := by
  have e0 := h 0 (by omega)
  have e1 := h 1 (by omega)
  have e2 := h 2 (by omega)
  have e3 := h 3 (by omega)
  have e4 := h 4 (by omega)
  have e5 := h 5 (by omega)
  have e6 := h 6 (by omega)
  have e7 := h 7 (by omega)
  have e8 := h 8 (by omega)
  have f0 : bt ⟨(nineL v).toArray⟩ 0 = (dg (v / 10 / 10 / 10 / 10 / 10 / 10 / 10 / 10)).toNat := rfl
  have f1 : bt ⟨(nineL v).toArray⟩ 1 = (dg (v / 10 / 10 / 10 / 10 / 10 / 10 / 10)).toNat := rfl
  have f2 : bt ⟨(nineL v).toArray⟩ 2 = (dg (v / 10 / 10 / 10 / 10 / 10 / 10)).toNat := rfl
  have f3 : bt ⟨(nineL v).toArray⟩ 3 = (dg (v / 10 / 10 / 10 / 10 / 10)).toNat := rfl
  have f4 : bt ⟨(nineL v).toArray⟩ 4 = (dg (v / 10 / 10 / 10 / 10)).toNat := rfl
  have f5 : bt ⟨(nineL v).toArray⟩ 5 = (dg (v / 10 / 10 / 10)).toNat := rfl
  have f6 : bt ⟨(nineL v).toArray⟩ 6 = (dg (v / 10 / 10)).toNat := rfl
  have f7 : bt ⟨(nineL v).toArray⟩ 7 = (dg (v / 10)).toNat := rfl
  have f8 : bt ⟨(nineL v).toArray⟩ 8 = (dg v).toNat := rfl
  have g0 := dg_toNat (v / 10 / 10 / 10 / 10 / 10 / 10 / 10 / 10)
  have g1 := dg_toNat (v / 10 / 10 / 10 / 10 / 10 / 10 / 10)
  have g2 := dg_toNat (v / 10 / 10 / 10 / 10 / 10 / 10)
  have g3 := dg_toNat (v / 10 / 10 / 10 / 10 / 10)
  have g4 := dg_toNat (v / 10 / 10 / 10 / 10)
  have g5 := dg_toNat (v / 10 / 10 / 10)
  have g6 := dg_toNat (v / 10 / 10)
  have g7 := dg_toNat (v / 10)
  have g8 := dg_toNat v
  rw [f0] at e0; rw [f1] at e1; rw [f2] at e2; rw [f3] at e3; rw [f4] at e4; rw [f5] at e5; rw [f6] at e6; rw [f7] at e7; rw [f8] at e8
  simp only [N, e0, e1, e2, e3, e4, e5, e6, e7, e8]
  omega

/-- The text that is read back: the point, the digits d (the first of them v's nine, as many as were kept), more digits, the tail. -/
theorem run_text (d more tail : ByteArray) (v : Int) (h0 : 0 ≤ v) (hdn : d.size ≤ 9) (hd1 : ∀ j, j < d.size → bt d j = bt ⟨(nineL v).toArray⟩ j) (hmd : ∀ j, j < more.size → IsDig (bt more j)) (ht : 0 < tail.size → ¬ IsDig (bt tail 0)) :
    Run ((((⟨#[46]⟩ : ByteArray) ++ d) ++ more) ++ tail) (d.size + more.size) := by
  have s1 : (((⟨#[46]⟩ : ByteArray) ++ d) ++ more).size = 1 + d.size + more.size := by simp [ByteArray.size_append]; rfl
  have s2 : ((⟨#[46]⟩ : ByteArray) ++ d).size = 1 + d.size := by simp [ByteArray.size_append]; rfl
  have s3 : (⟨#[46]⟩ : ByteArray).size = 1 := rfl
  refine ⟨by rw [ByteArray.size_append, s1]; omega, fun j hj hj' => ?_, fun h => ?_⟩
  · rw [bt_left _ _ _ (by rw [s1]; omega)]
    by_cases e : j < 1 + d.size
    · rw [bt_left _ _ _ (by rw [s2]; omega), bt_right _ _ _ (by rw [s3]; omega), s3, hd1 _ (by omega)]
      exact bt_nine v h0 _ (by omega)
    · rw [bt_right _ _ _ (by rw [s2]; omega), s2]
      exact hmd _ (by omega)
  · rw [bt_right _ _ _ (by rw [s1]; omega), s1, show 1 + (d.size + more.size) - (1 + d.size + more.size) = 0 by omega]
    rw [ByteArray.size_append, s1] at h
    exact ht (by omega)
theorem text_N (d more tail : ByteArray) (v : Int) (h0 : 0 ≤ v) (h1 : v ≤ 999999999) (hdn : d.size ≤ 9) (hd1 : ∀ j, j < d.size → bt d j = bt ⟨(nineL v).toArray⟩ j)
    (hd2 : ∀ j, d.size ≤ j → j < 9 → bt ⟨(nineL v).toArray⟩ j = 48) (hms : d.size < 9 → more.size = 0) :
    ((N ((((⟨#[46]⟩ : ByteArray) ++ d) ++ more) ++ tail) (d.size + more.size) 9 : Nat) : Int) = v := by
  have s1 : (((⟨#[46]⟩ : ByteArray) ++ d) ++ more).size = 1 + d.size + more.size := by simp [ByteArray.size_append]; rfl
  have s2 : ((⟨#[46]⟩ : ByteArray) ++ d).size = 1 + d.size := by simp [ByteArray.size_append]; rfl
  have s3 : (⟨#[46]⟩ : ByteArray).size = 1 := rfl
  refine N_nine _ _ v h0 h1 fun j hj => ?_
  unfold D
  by_cases e : j < d.size
  · rw [if_pos (by omega), bt_left _ _ _ (by rw [s1]; omega), bt_left _ _ _ (by rw [s2]; omega), bt_right _ _ _ (by rw [s3]; omega), s3, Nat.add_sub_cancel, hd1 _ e]
  · have := hms (by omega)
    rw [if_neg (by omega), hd2 j (by omega) hj]
theorem text_zero (d more tail : ByteArray) : bt ((((⟨#[46]⟩ : ByteArray) ++ d) ++ more) ++ tail) 0 = 46 := by
  have s1 : (((⟨#[46]⟩ : ByteArray) ++ d) ++ more).size = 1 + d.size + more.size := by simp [ByteArray.size_append]; rfl
  have s2 : ((⟨#[46]⟩ : ByteArray) ++ d).size = 1 + d.size := by simp [ByteArray.size_append]; rfl
  have s3 : (⟨#[46]⟩ : ByteArray).size = 1 := rfl
  rw [bt_left _ _ _ (by rw [s1]; omega), bt_left _ _ _ (by rw [s2]; omega), bt_left _ _ _ (by rw [s3]; omega)]
  rfl

/-- ZZfraction reads it back. -/
theorem zzFrac_text (d more tail : ByteArray) (v : Int) (w : World) (h0 : 0 ≤ v) (h1 : v ≤ 999999999) (hdz : 1 ≤ d.size) (hdn : d.size ≤ 9) (hd1 : ∀ j, j < d.size → bt d j = bt ⟨(nineL v).toArray⟩ j)
    (hd2 : ∀ j, d.size ≤ j → j < 9 → bt ⟨(nineL v).toArray⟩ j = 48) (hms : d.size < 9 → more.size = 0) (hmd : ∀ j, j < more.size → IsDig (bt more j)) (ht : 0 < tail.size → ¬ IsDig (bt tail 0))
    (hm : more.size ≤ 1048576) (htl : tail.size ≤ 1048576) :
    Calls Try.prog 7 #[.string ((((⟨#[46]⟩ : ByteArray) ++ d) ++ more) ++ tail)] w fun e w' => e = .returned (.tuple #[.int .i64 v, .string tail, .bool true]) ∧ ∃ q, w' = w.drewN q := by
  have s1 : (((⟨#[46]⟩ : ByteArray) ++ d) ++ more).size = 1 + d.size + more.size := by simp [ByteArray.size_append]; rfl
  have h := fun w => frac_some _ (d.size + more.size) w (by rw [ByteArray.size_append, s1]; omega) (text_zero d more tail) (run_text d more tail v h0 hdn hd1 hmd ht) (by rw [ByteArray.size_append, s1]; omega) (by omega)
  rw [text_N d more tail v h0 h1 hdn hd1 hd2 hms, extract_right _ _ _ (by rw [s1]; omega)] at h
  exact zzFrac_of _ w _ _ _ h
end Go.Proofs.Qxb6604227a.Cond
