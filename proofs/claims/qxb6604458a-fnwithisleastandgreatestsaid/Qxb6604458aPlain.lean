import Derived.Lib.Strings
import Derived.Lib.IndexBytes
import Derived.Lib.Bytealg
/- Plain mathematics: magnitudes compared digit by digit, and as Go's compare does. -/
namespace Go.Proofs.Qxb6604458a.Num
open Go

/-- Byte i of s (0 beyond its end). -/
def bt (s : ByteArray) (i : Nat) : Nat := (s.data.toList.getD i 0).toNat
theorem bt_get (s : ByteArray) (i : Nat) (h : i < s.size) : bt s i = s[i].toNat := by
  have := Lib.data_getElem? s i h
  simp [bt, List.getD, this]

/-- The first n places compared. -/
def lexn (f g : Nat → Nat) : Nat → Int
  | 0 => 0
  | n + 1 => if lexn f g n = 0 then (if f n < g n then -1 else if g n < f n then 1 else 0) else lexn f g n
theorem lexn_stay (f g : Nat → Nat) {n m : Nat} (h : lexn f g n ≠ 0) (hm : n ≤ m) : lexn f g m = lexn f g n := by
  induction m with
  | zero => have : n = 0 := by omega
            subst this; rfl
  | succ m ih =>
    by_cases e : n = m + 1
    · subst e; rfl
    · have h1 := ih (by omega)
      simp only [lexn]
      rw [if_neg (by rw [h1]; exact h), h1]
theorem lexn_anti (f g : Nat → Nat) (n : Nat) : lexn g f n = - lexn f g n := by
  induction n with
  | zero => rfl
  | succ n ih =>
    simp only [lexn, ih]
    by_cases e : lexn f g n = 0
    · rw [if_pos e, if_pos (by omega)]
      by_cases h1 : f n < g n
      · have h2 : ¬ g n < f n := by omega
        simp [h1, h2]
      · by_cases h2 : g n < f n
        · simp [h1, h2]
        · simp [h1, h2]
    · rw [if_neg e, if_neg (by omega)]
theorem lexn_self (f : Nat → Nat) (n : Nat) : lexn f f n = 0 := by
  have := lexn_anti f f n
  omega
theorem lexn_congr {f f' g g' : Nat → Nat} {n : Nat} (hf : ∀ i, i < n → f i = f' i) (hg : ∀ i, i < n → g i = g' i) : lexn f g n = lexn f' g' n := by
  induction n with
  | zero => rfl
  | succ n ih =>
    simp only [lexn]
    rw [ih (fun i hi => hf i (by omega)) (fun i hi => hg i (by omega)), hf n (by omega), hg n (by omega)]
theorem lexn_head (f g : Nat → Nat) (n : Nat) : lexn f g (n + 1) = if f 0 < g 0 then -1 else if g 0 < f 0 then 1 else lexn (fun i => f (i + 1)) (fun i => g (i + 1)) n := by
  induction n with
  | zero => simp [lexn]
  | succ n ih =>
    rw [show lexn f g (n + 1 + 1) = if lexn f g (n + 1) = 0 then (if f (n + 1) < g (n + 1) then -1 else if g (n + 1) < f (n + 1) then 1 else 0) else lexn f g (n + 1) from rfl, ih]
    by_cases h1 : f 0 < g 0
    · simp [h1]
    · by_cases h2 : g 0 < f 0
      · simp [h1, h2]
      · simp only [h1, h2, if_false]
        rfl
theorem lexn_val (f g : Nat → Nat) (n : Nat) : lexn f g n = -1 ∨ lexn f g n = 0 ∨ lexn f g n = 1 := by
  induction n with
  | zero => exact .inr (.inl rfl)
  | succ n ih =>
    simp only [lexn]
    split
    · split
      · exact .inl rfl
      · split
        · exact .inr (.inr rfl)
        · exact .inr (.inl rfl)
    · exact ih

/-- cmp.Compare on ints. -/
def cmpI (x y : Int) : Int := if x < y then -1 else if y < x then 1 else 0

theorem cmpI_succ (a b : Nat) : cmpI ((a + 1 : Nat) : Int) ((b + 1 : Nat) : Int) = cmpI (a : Int) (b : Int) := by
  unfold cmpI
  by_cases h1 : (a : Int) < b
  · have h1' : ((a + 1 : Nat) : Int) < ((b + 1 : Nat) : Int) := by omega
    rw [if_pos h1, if_pos h1']
  · have h1' : ¬ ((a + 1 : Nat) : Int) < ((b + 1 : Nat) : Int) := by omega
    rw [if_neg h1, if_neg h1']
    by_cases h2 : (b : Int) < a
    · have h2' : ((b + 1 : Nat) : Int) < ((a + 1 : Nat) : Int) := by omega
      rw [if_pos h2, if_pos h2']
    · have h2' : ¬ ((b + 1 : Nat) : Int) < ((a + 1 : Nat) : Int) := by omega
      rw [if_neg h2, if_neg h2']

/-- Go's order on strings, by places. -/
theorem compareBytes_lex (a b : List UInt8) : Lib.compareBytes a b = (let m := min a.length b.length; if lexn (fun i => (a.getD i 0).toNat) (fun i => (b.getD i 0).toNat) m = 0 then cmpI a.length b.length else lexn (fun i => (a.getD i 0).toNat) (fun i => (b.getD i 0).toNat) m) := by
  induction a generalizing b with
  | nil =>
    cases b with
    | nil => simp [Lib.compareBytes, lexn, cmpI]
    | cons y b =>
      have h : (0 : Int) < (b.length : Int) + 1 := by omega
      simp [Lib.compareBytes, lexn, cmpI, h]
  | cons x a ih =>
    cases b with
    | nil =>
      have h : ¬ ((a.length : Int) + 1 < 0) := by omega
      have h' : (0 : Int) < (a.length : Int) + 1 := by omega
      simp [Lib.compareBytes, lexn, cmpI, h, h']
    | cons y b =>
      have e : min (x :: a).length (y :: b).length = min a.length b.length + 1 := by simp
      simp only [Lib.compareBytes]
      rw [ih b, e, lexn_head]
      simp only [List.getD_cons_zero, List.getD_cons_succ]
      by_cases h1 : x < y
      · have h1' : x.toNat < y.toNat := UInt8.lt_iff_toNat_lt.1 h1
        simp [h1, h1']
      · have h1' : ¬ x.toNat < y.toNat := fun h => h1 (UInt8.lt_iff_toNat_lt.2 h)
        by_cases h2 : y < x
        · have h2' : y.toNat < x.toNat := UInt8.lt_iff_toNat_lt.1 h2
          simp [h1, h2, h1', h2']
        · have h2' : ¬ y.toNat < x.toNat := fun h => h2 (UInt8.lt_iff_toNat_lt.2 h)
          simp only [h1, h2, h1', h2', if_false]
          rw [List.length_cons, List.length_cons, cmpI_succ]

/-- The whole part, padded on the left to w places. -/
def padL (s : ByteArray) (w i : Nat) : Nat := if w - s.size ≤ i then bt s (i - (w - s.size)) else 48
/-- The fraction, padded on the right. -/
def padR (s : ByteArray) (i : Nat) : Nat := if i < s.size then bt s i else 48
def wid (a b : ByteArray) : Nat := if a.size < b.size then b.size else a.size
theorem wid_comm (a b : ByteArray) : wid a b = wid b a := by unfold wid; split <;> split <;> omega
/-- What magCmp gives. -/
def mag (aw af bw bf : ByteArray) : Int :=
  if lexn (padL aw (wid aw bw)) (padL bw (wid aw bw)) (wid aw bw) = 0 then lexn (padR af) (padR bf) (wid af bf) else lexn (padL aw (wid aw bw)) (padL bw (wid aw bw)) (wid aw bw)
theorem mag_anti (aw af bw bf : ByteArray) : mag bw bf aw af = - mag aw af bw bf := by
  unfold mag
  rw [wid_comm bw aw, wid_comm bf af, lexn_anti (padL aw (wid aw bw)), lexn_anti (padR af)]
  by_cases e : lexn (padL aw (wid aw bw)) (padL bw (wid aw bw)) (wid aw bw) = 0
  · rw [if_pos e, if_pos (by omega)]
  · rw [if_neg e, if_neg (by omega)]
theorem mag_self (aw af : ByteArray) : mag aw af aw af = 0 := by
  have := mag_anti aw af aw af
  omega
theorem mag_val (aw af bw bf : ByteArray) : -1 ≤ mag aw af bw bf ∧ mag aw af bw bf ≤ 1 := by
  unfold mag
  split
  · rcases lexn_val (padR af) (padR bf) (wid af bf) with h | h | h <;> omega
  · rcases lexn_val (padL aw (wid aw bw)) (padL bw (wid aw bw)) (wid aw bw) with h | h | h <;> omega

/-- What valueCmp gives. -/
def val (an : Bool) (aw af : ByteArray) (bn : Bool) (bw bf : ByteArray) : Int :=
  match an, bn with
  | true, false => -1
  | false, true => 1
  | true, true => - mag aw af bw bf
  | false, false => mag aw af bw bf
theorem val_anti (an : Bool) (aw af : ByteArray) (bn : Bool) (bw bf : ByteArray) : val bn bw bf an aw af = - val an aw af bn bw bf := by
  cases an <;> cases bn <;> simp [val, mag_anti aw af bw bf]
theorem val_self (an : Bool) (aw af : ByteArray) : val an aw af an aw af = 0 := by
  have := val_anti an aw af an aw af
  omega

/-- Digits only; no leading zero in the whole part; no trailing zero in the fraction. -/
def Canon (w f : ByteArray) : Prop :=
  (∀ i, i < w.size → 48 ≤ bt w i ∧ bt w i ≤ 57) ∧ (∀ i, i < f.size → 48 ≤ bt f i ∧ bt f i ≤ 57) ∧ (0 < w.size → bt w 0 ≠ 48) ∧ (0 < f.size → bt f (f.size - 1) ≠ 48)

/-- What Go's compare gives of two magnitudes. -/
def cmpM (aw af bw bf : ByteArray) : Int :=
  if cmpI (aw.size : Int) (bw.size : Int) = 0 then
    (if Lib.compareBytes aw.data.toList bw.data.toList = 0 then Lib.compareBytes af.data.toList bf.data.toList else Lib.compareBytes aw.data.toList bw.data.toList)
  else cmpI (aw.size : Int) (bw.size : Int)

theorem whole_lt {aw bw : ByteArray} (hb : ∀ i, i < bw.size → 48 ≤ bt bw i ∧ bt bw i ≤ 57) (hb0 : 0 < bw.size → bt bw 0 ≠ 48) (h : aw.size < bw.size) : lexn (padL aw bw.size) (padL bw bw.size) bw.size = -1 := by
  have h1 : padL aw bw.size 0 = 48 := by unfold padL; rw [if_neg (by omega)]
  have h2 : padL bw bw.size 0 = bt bw 0 := by unfold padL; rw [if_pos (by omega)]; congr 1; omega
  have h3 := hb 0 (by omega)
  have h4 := hb0 (by omega)
  have e : lexn (padL aw bw.size) (padL bw bw.size) 1 = -1 := by
    simp only [lexn, h1, h2]
    rw [if_pos trivial, if_pos (by omega)]
  rw [lexn_stay _ _ (n := 1) (by rw [e]; decide) (by omega), e]
theorem whole_eq {aw bw : ByteArray} (h : aw.size = bw.size) : lexn (padL aw bw.size) (padL bw bw.size) bw.size = Lib.compareBytes aw.data.toList bw.data.toList := by
  rw [compareBytes_lex]
  have e1 : min aw.data.toList.length bw.data.toList.length = bw.size := by rw [← Lib.size_eq, ← Lib.size_eq]; omega
  have e2 : cmpI (aw.data.toList.length : Int) (bw.data.toList.length : Int) = 0 := by rw [← Lib.size_eq, ← Lib.size_eq, h]; simp [cmpI]
  have e3 : lexn (padL aw bw.size) (padL bw bw.size) bw.size = lexn (fun i => (aw.data.toList.getD i 0).toNat) (fun i => (bw.data.toList.getD i 0).toNat) bw.size :=
    lexn_congr (fun i hi => by unfold padL; rw [if_pos (by omega)]; unfold bt; congr 2; omega) (fun i hi => by unfold padL; rw [if_pos (by omega)]; unfold bt; congr 2; omega)
  simp only [e1, e2, e3]
  split
  · assumption
  · rfl
/-- A proper prefix is the lesser. -/
theorem frac_lt {af bf : ByteArray} (hb : ∀ i, i < bf.size → 48 ≤ bt bf i ∧ bt bf i ≤ 57) (hb0 : 0 < bf.size → bt bf (bf.size - 1) ≠ 48) (h : af.size < bf.size) (hz : lexn (padR af) (padR bf) af.size = 0) :
    lexn (padR af) (padR bf) bf.size = -1 := by
  have key : ∀ n, af.size + n ≤ bf.size → lexn (padR af) (padR bf) (af.size + n) = 0 ∨ lexn (padR af) (padR bf) (af.size + n) = -1 := by
    intro n
    induction n with
    | zero => intro _; exact .inl hz
    | succ n ih =>
      intro hn
      have hlt := hb (af.size + n) (by omega)
      rw [show af.size + (n + 1) = af.size + n + 1 by omega]
      have e1 : padR af (af.size + n) = 48 := by unfold padR; rw [if_neg (by omega)]
      have e2 : padR bf (af.size + n) = bt bf (af.size + n) := by unfold padR; rw [if_pos (by omega)]
      simp only [lexn, e1, e2]
      rcases ih (by omega) with h1 | h1
      · rw [if_pos h1]
        by_cases h2 : 48 < bt bf (af.size + n)
        · exact .inr (if_pos h2)
        · rw [if_neg h2, if_neg (by omega)]; exact .inl rfl
      · rw [if_neg (by rw [h1]; decide)]; exact .inr h1
  have hlast := hb (bf.size - 1) (by omega)
  have hl0 := hb0 (by omega)
  have k := key (bf.size - 1 - af.size) (by omega)
  rw [show af.size + (bf.size - 1 - af.size) = bf.size - 1 by omega] at k
  have e1 : padR af (bf.size - 1) = 48 := by unfold padR; rw [if_neg (by omega)]
  have e2 : padR bf (bf.size - 1) = bt bf (bf.size - 1) := by unfold padR; rw [if_pos (by omega)]
  have e3 : lexn (padR af) (padR bf) (bf.size - 1 + 1) = -1 := by
    simp only [lexn, e1, e2]
    rcases k with h1 | h1
    · rw [if_pos h1, if_pos (by omega)]
    · rw [if_neg (by rw [h1]; decide)]; exact h1
  rw [show bf.size - 1 + 1 = bf.size by omega] at e3
  exact e3
theorem frac_eq {af bf : ByteArray} (ha : ∀ i, i < af.size → 48 ≤ bt af i ∧ bt af i ≤ 57) (ha0 : 0 < af.size → bt af (af.size - 1) ≠ 48) (hb : ∀ i, i < bf.size → 48 ≤ bt bf i ∧ bt bf i ≤ 57) (hb0 : 0 < bf.size → bt bf (bf.size - 1) ≠ 48) :
    lexn (padR af) (padR bf) (wid af bf) = Lib.compareBytes af.data.toList bf.data.toList := by
  rw [compareBytes_lex]
  have e3 : ∀ m, m ≤ af.size → m ≤ bf.size → lexn (padR af) (padR bf) m = lexn (fun i => (af.data.toList.getD i 0).toNat) (fun i => (bf.data.toList.getD i 0).toNat) m := fun m h1 h2 =>
    lexn_congr (fun i hi => by unfold padR; rw [if_pos (by omega)]; rfl) (fun i hi => by unfold padR; rw [if_pos (by omega)]; rfl)
  rw [← Lib.size_eq, ← Lib.size_eq]
  dsimp only
  rw [← e3 _ (Nat.min_le_left _ _) (Nat.min_le_right _ _)]
  by_cases hz : lexn (padR af) (padR bf) (min af.size bf.size) = 0
  · rw [if_pos hz]
    rcases Nat.lt_trichotomy af.size bf.size with h | h | h
    · have hm : min af.size bf.size = af.size := by omega
      rw [hm] at hz
      have hw : wid af bf = bf.size := by unfold wid; rw [if_pos h]
      rw [hw, frac_lt hb hb0 h hz]
      unfold cmpI
      rw [if_pos (by omega)]
    · have hm : min af.size bf.size = bf.size := by omega
      have hw : wid af bf = bf.size := by unfold wid; rw [if_neg (by omega), h]
      rw [hm] at hz
      rw [hw, hz, h]
      simp [cmpI]
    · have hm : min af.size bf.size = bf.size := by omega
      rw [hm] at hz
      have hw : wid af bf = af.size := by unfold wid; rw [if_neg (by omega)]
      have hz' : lexn (padR bf) (padR af) bf.size = 0 := by rw [lexn_anti]; omega
      rw [hw, lexn_anti, frac_lt ha ha0 h hz']
      unfold cmpI
      rw [if_neg (by omega), if_pos (by omega)]
      rfl
  · rw [if_neg hz]
    exact lexn_stay _ _ hz (by unfold wid; split <;> omega)

theorem cmpM_eq {aw af bw bf : ByteArray} (ha : Canon aw af) (hb : Canon bw bf) : cmpM aw af bw bf = mag aw af bw bf := by
  obtain ⟨a1, a2, a3, a4⟩ := ha
  obtain ⟨b1, b2, b3, b4⟩ := hb
  unfold cmpM mag
  rcases Nat.lt_trichotomy aw.size bw.size with h | h | h
  · have hw : wid aw bw = bw.size := by unfold wid; rw [if_pos h]
    have hc : cmpI (aw.size : Int) (bw.size : Int) = -1 := by unfold cmpI; rw [if_pos (by omega)]
    rw [hw, hc, whole_lt b1 b3 h]
    simp
  · have hw : wid aw bw = bw.size := by unfold wid; rw [if_neg (by omega), h]
    have hc : cmpI (aw.size : Int) (bw.size : Int) = 0 := by rw [h]; simp [cmpI]
    rw [hw, hc, whole_eq h, frac_eq a2 a4 b2 b4]
    simp
  · have hw : wid aw bw = aw.size := by unfold wid; rw [if_neg (by omega)]
    have hc : cmpI (aw.size : Int) (bw.size : Int) = 1 := by unfold cmpI; rw [if_neg (by omega), if_pos (by omega)]
    have e := whole_lt a1 a3 h
    rw [hw, hc, lexn_anti, e]
    simp
end Go.Proofs.Qxb6604458a.Num
